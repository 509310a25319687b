import PyProof.Rows.All
import Wide.All
import OpenK.AllK
import KE.KBytesWalk
import Wide.BytesFacts
import PyProof.RaisesMany
import PyProof.RulesTry
import KE.KSlice
import KE.KRevIter
import Wide.FinOn
import PySem.Challenge.RW_fe0168_01
set_option Elab.async false
set_option maxRecDepth 100000
set_option linter.unusedVariables false
set_option linter.unusedSimpArgs false
section
open PySem PySem.W PySem.W.X PySem.Builtin PyProof.Rows
set_option maxRecDepth 100000
namespace Mine
abbrev baN (b : Array UInt8) : Obj := { cls := .type "bytearray", data := .bytearray b }
end Mine
namespace Mine
def AtC {α : Type} (M : Model) (Γ : PySem.Ctx) (t : Sem α) (Q : α → Shared → Prop) (E : Value → Shared → Prop) (s : Shared) : Prop := ∀ p, Sem.wp M Γ t (fun a _ s' => Q a s') (fun e _ s' => E e s') p s
section
variable {M : Model} {Γ : PySem.Ctx} {A : Around} {E : Value → Shared → Prop} {s : Shared}
theorem AtC.of {α : Type} {t : Sem α} {Q : α → Shared → Prop} (hin : Γ.In A) (h : wpAny M A t Q E s) : AtC M Γ t Q E s := fun p => h _ p hin
theorem AtC.bind {α β : Type} {t : Sem α} {f : α → Sem β} {Q : β → Shared → Prop} (h : AtC M Γ t (fun a s' => AtC M Γ (f a) Q E s') E s) : AtC M Γ (t >>= f) Q E s := fun p => by
  rw [Sem.wp_bind']
  exact Sem.wp_mono M Γ t (fun a p' s' h' => h' p') (fun _ _ _ h' => h') p s (h p)
theorem AtC.pure {α : Type} {a : α} {Q : α → Shared → Prop} (h : Q a s) : AtC M Γ (Pure.pure a) Q E s := fun p => by
  rw [Sem.wp_pure']; exact h
/-- a code that can keep no bytearray lent -/
def freeC : Code → Bool
  | .builtin i _ => !(["bytearray.__contains__", "bytearray.__mod__", "bytearray.__rmod__", "_struct.pack_into.held", "bytearray.find.held"].contains i) && !Bytes.decodersThatHold.contains i
  | _ => true
theorem at_exported {a : Addr} {Q : Bool → Shared → Prop} (hc : freeC Γ.code = true) (hb : ∀ x ∈ Γ.below, freeC x.1 = true) (h : Q false s) : AtC M Γ (Bytes.exported (.ref a)) Q E s := fun p => by
  unfold Bytes.exported
  rw [Sem.wp_bind']
  show Sem.wp M Γ (Sem.stack Sem.pure) _ _ _ _
  rw [Sem.wp_stack, Sem.wp_pure]
  rw [Sem.wp_pure']
  rw [List.any_eq_false.mpr]
  · exact h
  intro x hx
  have hf : freeC x.1 = true := by
    rcases List.mem_cons.mp hx with rfl | hx
    · exact hc
    · exact hb x hx
  obtain ⟨c, q⟩ := x
  unfold freeC at hf
  split
  all_goals first
    | (rename_i e; simp at e; obtain ⟨rfl, _⟩ := e; simp at hf; done)
    | skip
  · rename_i e
    simp only [Prod.mk.injEq] at e
    obtain ⟨rfl, _⟩ := e
    simp only [Bool.and_eq_true, Bool.not_eq_true'] at hf
    rw [hf.2, Bool.and_false]
    decide
  · decide
end
end Mine
namespace Mine
namespace BI
theorem rel : typeLookup (.type "bytearray") "__release_buffer__" = pure (some (.builtin "bytearray.__release_buffer__")) := by rw [typeLookup_type, builtinLookup_eq_fast]; kernel_rfl
theorem sub : isSubtype (.type "bytearray") (.type "bytearray") = pure true := by rw [isSubtype_type]; kernel_rfl
theorem bind (v : Value) : Bytes.bindOptional "bytearray.__init__" "bytearray" ["source", "encoding", "errors"] [v] [] = pure [some v, none, none] := by kernel_rfl
theorem noIndexB : typeLookup (.type "bytes") "__index__" = pure none := by rw [typeLookup_type, builtinLookup_eq_fast]; kernel_rfl
theorem noIndexA : typeLookup (.type "bytearray") "__index__" = pure none := by rw [typeLookup_type, builtinLookup_eq_fast]; kernel_rfl
theorem bufB : typeLookup (.type "bytes") "__buffer__" = pure (some (.builtin "bytes.__buffer__")) := by rw [typeLookup_type, builtinLookup_eq_fast]; kernel_rfl
theorem bufA : typeLookup (.type "bytearray") "__buffer__" = pure (some (.builtin "bytearray.__buffer__")) := by rw [typeLookup_type, builtinLookup_eq_fast]; kernel_rfl
theorem relB : typeLookup (.type "bytes") "__release_buffer__" = pure none := by rw [typeLookup_type, builtinLookup_eq_fast]; kernel_rfl
theorem subB : isSubtype (.type "bytes") (.type "bytes") = pure true := by rw [isSubtype_type]; kernel_rfl
end BI
section
variable {prog : Program} {w : World} {A : Around} {E : Value → Shared → Prop} {s : Shared}
theorem own_release {a : Addr} {b : Array UInt8} {Q : Bool → Shared → Prop} (ho : s.heap.get? a = some (baN b)) (h : Q false s) : wpAny (model prog w) A (Bytes.ownRelease (.ref a)) Q E s := by
  have hT : s.TypeIs (.ref a) "bytearray" := ⟨_, ho, rfl⟩
  unfold Bytes.ownRelease Bytes.slotIsOwn
  refine wpAny_bind (wpAny_bind (wpAny_specialOf hT BI.rel ?_))
  show wpAny _ _ (if (!("bytearray.__release_buffer__" : String).endsWith ("." ++ "__release_buffer__")) = true then _ else _) _ _ _
  rw [show (!("bytearray.__release_buffer__" : String).endsWith ("." ++ "__release_buffer__")) = false by decide +kernel]
  refine bm_if_false rfl ?_
  rw [show (("bytearray.__release_buffer__" : String).dropRight (("__release_buffer__" : String).length + 1)) = "bytearray" by decide +kernel]
  exact wpAny_isInstance hT BI.sub (wpAny_pure h)
end
end Mine
namespace Mine
section
variable {prog : Program} {w : World} {Γ : PySem.Ctx} {A : Around} {E : Value → Shared → Prop} {s : Shared}
theorem at_if_false {α : Type} {M : Model} {c : Bool} {a b : Sem α} {Q : α → Shared → Prop} (hc : c = false) (h : AtC M Γ b Q E s) : AtC M Γ (if c = true then a else b) Q E s := by
  subst hc
  exact h
theorem at_bainit_by (hin : Γ.In A) (hc : freeC Γ.code = true) (hb : ∀ x ∈ Γ.below, freeC x.1 = true) {a : Addr} {b b0 : Array UInt8} {t : Tok} {Q : PySem.Fin → Shared → Prop} (ho : s.heap.get? a = some (baN b0)) (hz : b.size ≤ sizeLine)
    (h : ∀ h', h'.get? a = some (baN b) → Heap.SameBut a s.heap h' → Q (.done (.ret .none)) { s with heap := h' }) : AtC (model prog w) Γ (Builtin.«bytearray.__init__» ⟨[.ref a, .bytes b t], []⟩) Q E s := by
  unfold Builtin.«bytearray.__init__»
  refine AtC.bind (AtC.of hin (own_release ho ?_))
  refine at_if_false rfl ?_
  refine AtC.bind (AtC.of hin (wpAny_of_eq (BI.bind _) ?_))
  refine AtC.bind (AtC.of hin (wpAny_of_eq (a := ()) rfl ?_))
  refine AtC.bind (AtC.of hin (wpAny_of_eq (a := ()) rfl ?_))
  refine AtC.bind (AtC.bind (at_exported hc hb ?_))
  refine AtC.of hin ?_
  show wpAny _ _ (Bytes.exportsOf (.ref a) >>= fun n => pure (decide (n > 0))) _ _ _
  unfold Bytes.exportsOf
  refine wpAny_bind (wpAny_bind (wpAny_load ho (wpAny_pure (wpAny_pure ?_))))
  refine AtC.of hin ?_
  refine bm_if_false (by decide) ?_
  show wpAny _ _ (updateBytearray a (fun _ => #[]) >>= _) _ _ _
  unfold updateBytearray
  refine wpAny_bind (wpAny_bind (wpAny_load ho ?_))
  show wpAny _ _ (update a (Obj.mapBytearray (fun _ => #[])) >>= fun _ => lookBehind a) _ _ _
  refine wpAny_bind (wpAny_update ho ?_)
  have h1 : (s.heap.update a (Obj.mapBytearray (fun _ => #[]))).get? a = some (baN #[]) := Heap.get?_update_self _ ho rfl
  refine wpAny_lookBehind h1 rfl ?_
  refine wpAny_bind (wpAny_of_eq (a := (none : Option Str)) rfl ?_)
  refine bm_if_false rfl ?_
  refine wpAny_bind (wpAny_pure ?_)
  refine wpAny_bind (wpAny_specialOf (typeIs_bytes _ b t) BI.noIndexB ?_)
  refine bm_if_false rfl ?_
  refine wpAny_bind ?_
  unfold Bytes.buffer?
  refine wpAny_bind (wpAny_specialOf (typeIs_bytes _ b t) BI.bufB ?_)
  have own : ∀ {s' : Shared} {Q' : Bool → Shared → Prop}, Q' true s' → wpAny (model prog w) A (Bytes.slotIsOwn (.bytes b t) "__buffer__") Q' E s' := fun hq => by
    unfold Bytes.slotIsOwn
    refine wpAny_bind (wpAny_specialOf (typeIs_bytes _ b t) BI.bufB ?_)
    show wpAny _ _ (if (!("bytes.__buffer__" : String).endsWith ("." ++ "__buffer__")) = true then _ else _) _ _ _
    rw [show (!("bytes.__buffer__" : String).endsWith ("." ++ "__buffer__")) = false by decide +kernel]
    refine bm_if_false rfl ?_
    rw [show (("bytes.__buffer__" : String).dropRight (("__buffer__" : String).length + 1)) = "bytes" by decide +kernel]
    exact wpAny_isInstance (typeIs_bytes _ b t) BI.subB hq
  have rel : ∀ {s' : Shared} {Q' : Bool → Shared → Prop}, Q' false s' → wpAny (model prog w) A (Bytes.ownRelease (.bytes b t)) Q' E s' := fun hq => by
    unfold Bytes.ownRelease Bytes.slotIsOwn
    exact wpAny_bind (wpAny_bind (wpAny_specialOf (typeIs_bytes _ b t) BI.relB (wpAny_pure (wpAny_pure hq))))
  refine wpAny_bind (own ?_)
  refine bm_if_false rfl ?_
  refine wpAny_bind (wpAny_specialOf (typeIs_bytes _ b t) BI.bufB ?_)
  refine wpAny_bind (rel ?_)
  refine bm_if_false rfl ?_
  refine wpAny_bind (wpAny_of_eq (a := b) rfl (wpAny_pure ?_))
  refine wpAny_bind (wpAny_rule ?_)
  show wpAny _ _ (updateBytearray a (fun _ => b) >>= _) _ _ _
  unfold updateBytearray
  refine wpAny_bind (wpAny_bind (wpAny_load h1 ?_))
  show wpAny _ _ (update a (Obj.mapBytearray (fun _ => b)) >>= fun _ => lookBehind a) _ _ _
  refine wpAny_bind (wpAny_update h1 ?_)
  have h2 : ((s.heap.update a (Obj.mapBytearray (fun _ => #[]))).update a (Obj.mapBytearray (fun _ => b))).get? a = some (baN b) := Heap.get?_update_self _ h1 rfl
  refine wpAny_lookBehind h2 ?_ ?_
  · show (if b.size > sizeLine then some "bytearray:memory" else none) = none
    rw [if_neg (by omega)]
  · refine wpAny_pure (h _ h2 ⟨?_, fun c hc => ?_⟩)
    · rw [Heap.size_after_update, Heap.size_after_update]
    · rw [Heap.get?_update_other _ _ (Ne.symm hc), Heap.get?_update_other _ _ (Ne.symm hc)]
theorem at_bainit_ba (hin : Γ.In A) (hc : freeC Γ.code = true) (hb : ∀ x ∈ Γ.below, freeC x.1 = true) {a a2 : Addr} {b b0 : Array UInt8} {Q : PySem.Fin → Shared → Prop} (ho : s.heap.get? a = some (baN b0)) (ho2 : s.heap.get? a2 = some (baN b)) (hne : a2 ≠ a) (hz : b.size ≤ sizeLine)
    (h : ∀ h', h'.get? a = some (baN b) → Heap.SameBut a s.heap h' → Q (.done (.ret .none)) { s with heap := h' }) : AtC (model prog w) Γ (Builtin.«bytearray.__init__» ⟨[.ref a, .ref a2], []⟩) Q E s := by
  unfold Builtin.«bytearray.__init__»
  refine AtC.bind (AtC.of hin (own_release ho ?_))
  refine at_if_false rfl ?_
  refine AtC.bind (AtC.of hin (wpAny_of_eq (BI.bind _) ?_))
  refine AtC.bind (AtC.of hin (wpAny_of_eq (a := ()) rfl ?_))
  refine AtC.bind (AtC.of hin (wpAny_of_eq (a := ()) rfl ?_))
  refine AtC.bind (AtC.bind (at_exported hc hb ?_))
  refine AtC.of hin ?_
  show wpAny _ _ (Bytes.exportsOf (.ref a) >>= fun n => pure (decide (n > 0))) _ _ _
  unfold Bytes.exportsOf
  refine wpAny_bind (wpAny_bind (wpAny_load ho (wpAny_pure (wpAny_pure ?_))))
  refine AtC.of hin ?_
  refine bm_if_false (by decide) ?_
  show wpAny _ _ (updateBytearray a (fun _ => #[]) >>= _) _ _ _
  unfold updateBytearray
  refine wpAny_bind (wpAny_bind (wpAny_load ho ?_))
  show wpAny _ _ (update a (Obj.mapBytearray (fun _ => #[])) >>= fun _ => lookBehind a) _ _ _
  refine wpAny_bind (wpAny_update ho ?_)
  have h1 : (s.heap.update a (Obj.mapBytearray (fun _ => #[]))).get? a = some (baN #[]) := Heap.get?_update_self _ ho rfl
  have h12 : (s.heap.update a (Obj.mapBytearray (fun _ => #[]))).get? a2 = some (baN b) := by rw [Heap.get?_update_other _ _ (Ne.symm hne)]; exact ho2
  refine wpAny_lookBehind h1 rfl ?_
  refine wpAny_bind (wpAny_bind (wpAny_load h12 (wpAny_pure ?_)))
  refine bm_if_false rfl ?_
  refine wpAny_bind (wpAny_pure ?_)
  refine wpAny_bind (wpAny_specialOf (⟨_, h12, rfl⟩ : Shared.TypeIs _ (.ref a2) "bytearray") BI.noIndexA ?_)
  refine bm_if_false rfl ?_
  refine wpAny_bind ?_
  unfold Bytes.buffer?
  refine wpAny_bind (wpAny_specialOf (⟨_, h12, rfl⟩ : Shared.TypeIs _ (.ref a2) "bytearray") BI.bufA ?_)
  have hT2 : Shared.TypeIs { s with heap := s.heap.update a (Obj.mapBytearray (fun _ => #[])) } (.ref a2) "bytearray" := ⟨_, h12, rfl⟩
  have own : ∀ {Q' : Bool → Shared → Prop}, Q' true { s with heap := s.heap.update a (Obj.mapBytearray (fun _ => #[])) } → wpAny (model prog w) A (Bytes.slotIsOwn (.ref a2) "__buffer__") Q' E { s with heap := s.heap.update a (Obj.mapBytearray (fun _ => #[])) } := fun hq => by
    unfold Bytes.slotIsOwn
    refine wpAny_bind (wpAny_specialOf hT2 BI.bufA ?_)
    show wpAny _ _ (if (!("bytearray.__buffer__" : String).endsWith ("." ++ "__buffer__")) = true then _ else _) _ _ _
    rw [show (!("bytearray.__buffer__" : String).endsWith ("." ++ "__buffer__")) = false by decide +kernel]
    refine bm_if_false rfl ?_
    rw [show (("bytearray.__buffer__" : String).dropRight (("__buffer__" : String).length + 1)) = "bytearray" by decide +kernel]
    exact wpAny_isInstance hT2 BI.sub hq
  refine wpAny_bind (own ?_)
  refine bm_if_false rfl ?_
  refine wpAny_bind (wpAny_specialOf hT2 BI.bufA ?_)
  refine wpAny_bind (own_release h12 ?_)
  refine bm_if_false rfl ?_
  unfold Bytes.payload Bytes.payload?
  refine wpAny_bind (wpAny_bind (wpAny_bind (wpAny_load h12 (wpAny_pure (wpAny_pure (wpAny_pure ?_))))))
  refine wpAny_bind (wpAny_rule ?_)
  show wpAny _ _ (updateBytearray a (fun _ => b) >>= _) _ _ _
  unfold updateBytearray
  refine wpAny_bind (wpAny_bind (wpAny_load h1 ?_))
  show wpAny _ _ (update a (Obj.mapBytearray (fun _ => b)) >>= fun _ => lookBehind a) _ _ _
  refine wpAny_bind (wpAny_update h1 ?_)
  have h2 : ((s.heap.update a (Obj.mapBytearray (fun _ => #[]))).update a (Obj.mapBytearray (fun _ => b))).get? a = some (baN b) := Heap.get?_update_self _ h1 rfl
  refine wpAny_lookBehind h2 ?_ ?_
  · show (if b.size > sizeLine then some "bytearray:memory" else none) = none
    rw [if_neg (by omega)]
  · refine wpAny_pure (h _ h2 ⟨?_, fun c hc => ?_⟩)
    · rw [Heap.size_after_update, Heap.size_after_update]
    · rw [Heap.get?_update_other _ _ (Ne.symm hc), Heap.get?_update_other _ _ (Ne.symm hc)]
end
/-- every code of the context, and of those below it, keeps no bytearray lent -/
def FreeC (Γ : PySem.Ctx) : Prop := freeC Γ.code = true ∧ ∀ x ∈ Γ.below, freeC x.1 = true
namespace BI
theorem slot : Slot "bytearray" "__init__" "bytearray.__init__" :=
  .of (owner := "bytearray") (n := "__init__") (by rw [typeLookup_type, builtinLookup_eq_fast]; kernel_rfl) (by decide +kernel) (by decide +kernel) (by decide +kernel)
    (by first | exact .inl (by decide +kernel) | exact .inr (by decide +kernel)) (by rw [isSubtype_type]; kernel_rfl)
theorem entry : entryFor table "bytearray.__init__" = some Builtin.«bytearray.__init__» := entryFor_of_tree (by kernel_rfl)
theorem args (a b : Value) : argsOk "bytearray.__init__" ⟨[a, b], []⟩ := by unfold argsOk; kernel_rfl
end BI
section
variable {prog : Program} {w : World} {Γ : PySem.Ctx} {s : Shared}
theorem builtin_wp {p : Pos} {R : Result → Shared → Prop} {id : String} {args : Args} {b : Builtin} (hq : (Code.builtin id args).quiet = true) (hb : entryFor table id = some b) (hchk : ∀ (A : Around) (E : Value → Shared → Prop), wpAny (model prog w) A (checkBuiltinCall id args) (fun _ s' => s' = s) E s) (hF : FreeC Γ) (hfree : freeC (.builtin id args) = true)
    (h : ∀ Γ' A, Γ'.In A → FreeC Γ' → AtC (model prog w) Γ' (b args) (fun fin s' => match fin with | .done f => R (.ok f) s' | .again _ => False) (fun e s' => R (.error e) s') s) :
    wpCode (model prog w) (Γ.enter (.call (.builtin id) args) none p) R p s := by
  have hB : (Γ.enter (.call (.builtin id) args) none p).Below ⟨(Γ.enter (.call (.builtin id) args) none p).handled, frameCount ((Γ.code, p) :: Γ.below), some (envsOf ((Γ.code, p) :: Γ.below)), some (guardsOf ((Γ.code, p) :: Γ.below)), unitsOf ((Γ.code, p) :: Γ.below)⟩ :=
    ⟨rfl, Nat.le_refl _, fun _ h => Option.some.inj h, fun _ h => Option.some.inj h, Nat.le_refl _⟩
  rw [wpCode_iff_wp]
  show Sem.wp _ _ (do checkBuiltinCall id args; again (.builtin id args)) _ _ _ _
  rw [Sem.wp_bind']
  refine Sem.wp_mono _ _ _ (fun _ p' s' h' => ?_) (fun _ _ _ h' => h') p s (hchk _ (fun e s' => R (.error e) s') _ p hB.in)
  subst h'
  show Sem.wp _ _ (Pure.pure _) _ _ _ _
  rw [Sem.wp_pure']
  refine ⟨hq, ?_⟩
  rw [wpCode_iff_wp]
  show Sem.wp _ _ (match entryFor table id with | some b => b args | none => unsupported ((withoutEnding? id "#data").getD id)) _ _ _ _
  rw [hb]
  refine Sem.wp_mono _ _ _ (fun fin p' s' h' => ?_) (fun _ _ _ h' => h') p' _ (h ((Γ.enter (.call (.builtin id) args) none p).goto (.builtin id args)) _ (hB.goto _).in ⟨hfree, ?_⟩ p')
  · cases fin with
    | done f => exact h'
    | again c => exact h'.elim
  · intro x hx
    rcases List.mem_cons.mp hx with rfl | hx
    · exact hF.1
    · exact hF.2 x hx
theorem free_init : ∀ args, freeC (.builtin "bytearray.__init__" args) = true := fun args => by
  unfold freeC
  show (!["bytearray.__contains__", "bytearray.__mod__", "bytearray.__rmod__", "_struct.pack_into.held", "bytearray.find.held"].contains "bytearray.__init__" && !Bytes.decodersThatHold.contains "bytearray.__init__") = true
  decide +kernel
theorem bai_code {p : Pos} {R : Result → Shared → Prop} {a : Addr} {v : Value} (ho : s.TypeIs (.ref a) "bytearray") (hF : FreeC Γ)
    (h : ∀ Γ' A, Γ'.In A → FreeC Γ' → AtC (model prog w) Γ' (Builtin.«bytearray.__init__» ⟨[.ref a, v], []⟩) (fun fin s' => match fin with | .done f => R (.ok f) s' | .again _ => False) (fun e s' => R (.error e) s') s) :
    wpCode (model prog w) (Γ.enter (.call (.builtin "bytearray.__init__") ⟨[.ref a, v], []⟩) none p) R p s :=
  builtin_wp (plainId_quiet BI.slot.plain _) BI.entry (fun A E => BI.slot.check (model prog w) A E s (.ref a) [v] [] (fun _ s' => s' = s) ho (BI.args _ _) rfl) hF (free_init _) h
end
/-- the builtins that lie on the law's stack -/
noncomputable def freeW (c : Code) : Bool := match c with
  | .builtin i _ => match Nat.beq (PySem.code i) 7635746451779523968930960996981 with
    | true => true
    | false => Nat.beq (PySem.code i) 35714603318786955769505017188
  | _ => true
theorem freeW_free {c : Code} (h : freeW c = true) : freeC c = true := by
  cases c with
  | builtin i a =>
    have hi : i = "type.__call__" ∨ i = "claim.caller" := by
      simp only [freeW] at h
      split at h
      · rename_i hq
        exact .inl (PySem.code_inj i "type.__call__" ((Nat.eq_of_beq_eq_true hq).trans (by decide +kernel)))
      · exact .inr (PySem.code_inj i "claim.caller" ((Nat.eq_of_beq_eq_true h).trans (by decide +kernel)))
    rcases hi with rfl | rfl
    · show (!["bytearray.__contains__", "bytearray.__mod__", "bytearray.__rmod__", "_struct.pack_into.held", "bytearray.find.held"].contains "type.__call__" && !Bytes.decodersThatHold.contains "type.__call__") = true
      decide +kernel
    · show (!["bytearray.__contains__", "bytearray.__mod__", "bytearray.__rmod__", "_struct.pack_into.held", "bytearray.find.held"].contains "claim.caller" && !Bytes.decodersThatHold.contains "claim.caller") = true
      decide +kernel
  | _ => rfl
end Mine
end

section
open PySem PySem.W PySem.W.X
set_option maxRecDepth 100000
namespace Mine

noncomputable abbrev den : Code → Sem Fin := PySem.W.Fast.tw11892475500146522536 PySem.W.Fast.tw14364793385576792824
theorem den_eq : denote table = den := by
  rw [PySem.table_eq_tree, PySem.W.Fast.te14364793385576792824, PySem.W.Fast.te11892475500146522536]

noncomputable def ft (b1 b2 : Bool) (f : String → Bool) (s : String) : Bool :=
  @Bool.rec (fun _ => Bool) (@Bool.rec (fun _ => Bool) (f s) b2 (Nat.beq (PySem.code s) 10139888712337904147300001983332972444938612)) b1 (Nat.beq (PySem.code s) 2510650655181157320538776789020469319833841985448949215332)
noncomputable def pb (P : Params) (b1 b2 : Bool) : Params := { P with followText := ft b1 b2 P.followText }
noncomputable def wb (w : World) (b1 b2 : Bool) : World := { w with params := pb w.params b1 b2 }
theorem wb_self (w : World) : wb w (w.params.followText "comprehension-iter-twice") (w.params.followText "special-get-raises") = w := by
  have e : ft (w.params.followText "comprehension-iter-twice") (w.params.followText "special-get-raises") w.params.followText = w.params.followText := by
    funext s
    unfold ft
    cases h1 : Nat.beq (PySem.code s) 2510650655181157320538776789020469319833841985448949215332 with
    | true =>
      have h := PySem.code_inj s "comprehension-iter-twice" ((Nat.eq_of_beq_eq_true h1).trans (by decide +kernel))
      subst h; rfl
    | false =>
      cases h2 : Nat.beq (PySem.code s) 10139888712337904147300001983332972444938612 with
      | true =>
        have h := PySem.code_inj s "special-get-raises" ((Nat.eq_of_beq_eq_true h2).trans (by decide +kernel))
        subst h; rfl
      | false => rfl
  unfold wb pb
  rw [e]


inductive K where
  | base
  | ret (c : Code) (hd : Option Value) (k : Result → Sem Fin) (p : Pos) (κ : K)
noncomputable def ctxOf (G : Ctx) : K → Ctx
  | .base => G
  | .ret c hd _ p κ => (ctxOf G κ).enter c hd p

structure St where
  κ : K
  t : Sem Fin
  p : Pos
  L : List (Addr × Obj)
  m : Nat
  i : Nat
  as : List Addr
  bs : List Addr
  ps : Prop

noncomputable def getL (L : List (Addr × Obj)) (j : Nat) : Option (Addr × Obj) :=
  @List.rec (Addr × Obj) (fun _ => Nat → Option (Addr × Obj)) (fun _ => none) (fun p _ ih j => @Nat.rec (fun _ => Option (Addr × Obj)) (some p) (fun j' _ => ih j') j) L j
theorem getL_nil (j : Nat) : getL [] j = none := rfl
theorem getL_zero (p : Addr × Obj) (l) : getL (p :: l) 0 = some p := rfl
theorem getL_succ (p : Addr × Obj) (l) (j : Nat) : getL (p :: l) (j + 1) = getL l j := rfl
theorem getL_eq : ∀ (L : List (Addr × Obj)) (j : Nat), getL L j = L[j]?
  | [], _ => by simp [getL_nil]
  | p :: l, 0 => by simp [getL_zero]
  | p :: l, j + 1 => by rw [getL_succ, getL_eq l j]; simp

noncomputable def setK {α : Type} (L : List (Addr × Obj)) (j : Nat) (o : Obj) (k : List (Addr × Obj) → α) : α :=
  @List.rec (Addr × Obj) (fun _ => Nat → (List (Addr × Obj) → α) → α) (fun _ k => k []) (fun p l ih j k => @Nat.rec (fun _ => α) (k ((p.1, o) :: l)) (fun j' _ => ih j' (fun l' => k (p :: l'))) j) L j k
noncomputable def setL (L : List (Addr × Obj)) (j : Nat) (o : Obj) : List (Addr × Obj) := match L, j with
  | [], _ => []
  | p :: l, 0 => (p.1, o) :: l
  | p :: l, j + 1 => p :: setL l j o
theorem setK_eq {α : Type} (o : Obj) : ∀ (L : List (Addr × Obj)) (j : Nat) (k : List (Addr × Obj) → α), setK L j o k = k (setL L j o)
  | [], _, _ => rfl
  | p :: l, 0, _ => rfl
  | p :: l, j + 1, k => by
    show setK l j o (fun l' => k (p :: l')) = _
    rw [setK_eq o l j]; rfl
theorem setL_map (o : Obj) : ∀ (L : List (Addr × Obj)) (j : Nat), (setL L j o).map (·.1) = L.map (·.1)
  | [], _ => rfl
  | p :: l, 0 => rfl
  | p :: l, j + 1 => by simp only [setL, List.map_cons, setL_map o l j]
theorem setL_mem (o : Obj) : ∀ (L : List (Addr × Obj)) (j : Nat) (p : Addr × Obj), (L.map (·.1)).Nodup → p ∈ setL L j o → (∃ q, L[j]? = some q ∧ p = (q.1, o)) ∨ (p ∈ L ∧ ∀ q, L[j]? = some q → p.1 ≠ q.1)
  | [], _, _, _, h => by cases h
  | x :: l, 0, p, hn, h => by
    rcases List.mem_cons.mp h with rfl | h
    · exact .inl ⟨x, rfl, rfl⟩
    · refine .inr ⟨List.mem_cons_of_mem _ h, fun q hq => ?_⟩
      cases hq
      intro e
      rw [List.map_cons, List.nodup_cons] at hn
      exact hn.1 (e ▸ List.mem_map_of_mem h)
  | x :: l, j + 1, p, hn, h => by
    rw [List.map_cons, List.nodup_cons] at hn
    rcases List.mem_cons.mp h with rfl | h
    · refine .inr ⟨.head _, fun q hq e => ?_⟩
      have : q ∈ l := List.mem_of_getElem? (by simpa using hq)
      exact hn.1 (e ▸ List.mem_map_of_mem this)
    · rcases setL_mem o l j p hn.2 h with ⟨q, hq, e⟩ | ⟨hp, hq⟩
      · exact .inl ⟨q, by simpa using hq, e⟩
      · exact .inr ⟨List.mem_cons_of_mem _ hp, fun q h' => hq q (by simpa using h')⟩


inductive Ov where
  | no
  | op (z : Int) (P : Prop)
  | val (v : Value) (P : Prop)
  | app (a : Addr) (v : Value)
  | get (a : Addr) (i : Int)
  | set (a : Addr) (i v : Int)
  | bai (a : Addr) (v : Value)

noncomputable def ovII (c : Nat) (x y : Int) : Ov := match Nat.beq c 116512245094328231196454762 with
  | true => .op (x * y) (IntMulOk x y)
  | false => match Nat.beq c 116512447577011902704086890 with
    | true => .op (x ^ y.toNat) (x = 2 ∧ 0 ≤ y ∧ y ≤ 8)
    | false => match Nat.beq c 1954753560319954399567331122835306 with
      | true => .op (x * 2 ^ y.toNat) (0 ≤ x ∧ x < 256 ∧ 0 ≤ y ∧ y ≤ 8)
      | false => match Nat.beq c 1954753560319954401256180983099242 with
        | true => .op (x.fdiv (2 ^ y.toNat)) (0 ≤ x ∧ 0 ≤ y)
        | false => match Nat.beq c 128106770130096871752080967664072486762 with
          | true => .op (x.fdiv y) (y ≠ 0 ∧ Builtin.divisionGoesByPylong x y = false)
          | false => .no
noncomputable def ovRV (c : Nat) (a : Addr) (v : Value) : Ov := match Nat.beq c 122627580202994350266018413 with
  | true => .app a v
  | false => match Nat.beq c 128106587276438692081757506308484131437 with
    | true => match v with
      | .int i _ => .get a i
      | _ => .no
    | false => match Nat.beq c 8395602628992143088491114474801878304914019 with
      | true => .bai a v
      | false => .no
noncomputable def ovB (c : Nat) (x y : Array UInt8) : Ov := match Nat.beq c 29827101557446578686309792355 with
  | true => .val (.bool false) (x = y)
  | false => .no
noncomputable def ovS (c : Nat) (v1 v2 v3 : Value) : Ov := match Nat.beq c 140854682305145316824032375786410087430454282386019 with
  | true => match v1 with
    | .ref a => match v2 with
      | .int i _ => match v3 with
        | .int v _ => .set a i v
        | _ => .no
      | _ => .no
    | _ => .no
  | false => .no
noncomputable def ovr (c : Code) : Ov := match c with
  | .call f args => match f with
    | .builtin id => match args with
      | ⟨pos, kw⟩ => match kw with
        | _ :: _ => .no
        | [] => match pos with
          | v1 :: r => match r with
            | v2 :: r2 => match r2 with
              | [] => match v1 with
                | .int x _ => match v2 with
                  | .int y _ => ovII (PySem.code id) x y
                  | _ => .no
                | .ref a => ovRV (PySem.code id) a v2
                | .bytes x _ => match v2 with
                  | .bytes y _ => ovB (PySem.code id) x y
                  | _ => .no
                | _ => .no
              | v3 :: r3 => match r3 with
                | [] => ovS (PySem.code id) v1 v2 v3
                | _ :: _ => .no
            | [] => .no
          | [] => .no
    | _ => .no
  | _ => .no

noncomputable def valI (xs : Array Value) (i : Int) : Int := match xs[i.toNat]? with
  | some (.int a _) => a
  | _ => 0
noncomputable def tokI (xs : Array Value) (i : Int) : Tok := match xs[i.toNat]? with
  | some (.int _ t) => t
  | _ => 0

/-- no code of the stack holds a bytearray's export -/
noncomputable def freeK (G : Ctx) (κ : K) : Prop := @K.rec (fun _ => Prop) (FreeC G) (fun c _ _ _ _ ih => match freeW c with | true => ih | false => False) κ
theorem freeK_free {G : Ctx} : ∀ {κ : K}, freeK G κ → FreeC (ctxOf G κ)
  | .base, h => h
  | .ret c hd k p κ, h => by
    have h' : (match freeW c with | true => freeK G κ | false => False) := h
    split at h'
    · rename_i hw
      have ih := freeK_free h'
      refine ⟨freeW_free hw, fun x hx => ?_⟩
      rcases List.mem_cons.mp hx with rfl | hx
      · exact ih.1
      · exact ih.2 x hx
    · exact h'.elim

noncomputable def step1 (S : Setting) (G : Ctx) (N T : Nat) (ih : List Nat → St → St) (tr : List Nat) (st : St) : St :=
  match st with
  | ⟨κ, t, p, L, m, i, as, bs, ps⟩ => match t with
    | .pure fin => match fin with
      | .done f => match κ with
        | .ret _ _ k p' κ' => ih tr ⟨κ', k (.ok f), p', L, m, i, as, bs, ps⟩
        | .base => ⟨.base, .pure (.done f), p, L, m, i, as, bs, ps⟩
      | .again c' => match κ with
        | .ret _ hd k p' κ' => match c'.quiet with
          | true => ih tr ⟨.ret c' hd k p' κ', den c', p, L, m, i, as, bs, ps⟩
          | false => ⟨κ, .pure (.again c'), p, L, m, i, as, bs, ps⟩
        | .base => ⟨.base, .pure (.again c'), p, L, m, i, as, bs, ps⟩
    | .raise e => match κ with
        | .ret _ _ k p' κ' => ih tr ⟨κ', k (.error e), p', L, m, i, as, bs, ps⟩
        | .base => ⟨.base, .raise e, p, L, m, i, as, bs, ps⟩
    | .rule _ k => ih tr ⟨κ, k (), p, L, m, i, as, bs, ps⟩
    | .at q k => ih tr ⟨κ, k (), q, L, m, i, as, bs, ps⟩
    | .point _ k => ih tr ⟨κ, k (), p, L, m, i, as, bs, ps⟩
    | .ask k => ih tr ⟨κ, k S, p, L, m, i, as, bs, ps⟩
    | .stack k => ih tr ⟨κ, k (((ctxOf G κ).code, p) :: (ctxOf G κ).below), p, L, m, i, as, bs, ps⟩
    | .load a q k => match tr with
      | j :: tr' => match getL L j with
        | some x => ih tr' ⟨κ, k x.2, p, L, m, i, a :: as, x.1 :: bs, ps⟩
        | none => ⟨κ, .load a q k, p, L, m, i, as, bs, ps⟩
      | [] => ⟨κ, .load a q k, p, L, m, i, as, bs, ps⟩
    | .loadIfAlive a k => match tr with
      | j :: tr' => match getL L j with
        | some x => ih tr' ⟨κ, k (some x.2), p, L, m, i, a :: as, x.1 :: bs, ps⟩
        | none => ⟨κ, .loadIfAlive a k, p, L, m, i, as, bs, ps⟩
      | [] => ⟨κ, .loadIfAlive a k, p, L, m, i, as, bs, ps⟩
    | .update a q f k => match tr with
      | j :: tr' => match getL L j with
        | some x => match f x.2 with
          | ⟨c, d, dt, sl⟩ => match Obj.isFreed ⟨c, d, dt, sl⟩ with
            | false => setK L j ⟨c, d, dt, sl⟩ fun L' => ih tr' ⟨κ, k (), p, L', m, i, a :: as, x.1 :: bs, ps⟩
            | true => ⟨κ, .update a q f k, p, L, m, i, as, bs, ps⟩
        | none => ⟨κ, .update a q f k, p, L, m, i, as, bs, ps⟩
      | [] => ⟨κ, .update a q f k, p, L, m, i, as, bs, ps⟩
    | .alloc o k => match o with
      | ⟨c, d, dt, sl⟩ => match Obj.isFreed ⟨c, d, dt, sl⟩ with
        | false => ih tr ⟨κ, k (N + m), p, (N + m, ⟨c, d, dt, sl⟩) :: L, m + 1, i, as, bs, ps⟩
        | true => ⟨κ, .alloc ⟨c, d, dt, sl⟩ k, p, L, m, i, as, bs, ps⟩
    | .fresh k => ih tr ⟨κ, k (T + i), p, L, m, i + 1, as, bs, ps⟩
    | .handled own k => match own with
      | false => ih tr ⟨κ, k (ctxOf G κ).handled, p, L, m, i, as, bs, ps⟩
      | true => ih tr ⟨κ, k (ctxOf G κ).own, p, L, m, i, as, bs, ps⟩
    | .call c' hd g l k => match hd with
      | some hv => ih tr ⟨.ret c' (some hv) k p κ, den c', p, L, m, i, as, bs, ps⟩
      | none => match ovr c' with
        | .no => ih tr ⟨.ret c' none k p κ, den c', p, L, m, i, as, bs, ps⟩
        | .op z P => ih tr ⟨κ, k (.ok (.ret (.int z (T + i)))), p, L, m, i + 1, as, bs, P ∧ ps⟩
        | .val v P => ih tr ⟨κ, k (.ok (.ret v)), p, L, m, i, as, bs, P ∧ ps⟩
        | .get a x => match tr with
          | j :: tr' => match getL L j with
            | some y => match y.2 with
              | ⟨c, d, dt, sl⟩ => match dt with
                | .seq xs n => ih tr' ⟨κ, k (.ok (.ret (.int (valI xs x) (tokI xs x)))), p, L, m, i, a :: as, y.1 :: bs, (c = .type "list" ∧ 0 ≤ x ∧ x ≤ 1000 ∧ xs[x.toNat]? = some (.int (valI xs x) (tokI xs x))) ∧ ps⟩
                | _ => ⟨κ, .call c' none g l k, p, L, m, i, as, bs, ps⟩
            | none => ⟨κ, .call c' none g l k, p, L, m, i, as, bs, ps⟩
          | [] => ⟨κ, .call c' none g l k, p, L, m, i, as, bs, ps⟩
        | .set a x v => match tr with
          | j :: tr' => match getL L j with
            | some y => match y.2 with
              | ⟨c, d, dt, sl⟩ => match dt with
                | .bytearray b n => setK L j ⟨c, d, .bytearray (b.setIfInBounds x.toNat v.toNat.toUInt8) n, sl⟩ fun L' => ih tr' ⟨κ, k (.ok (.ret .none)), p, L', m, i, a :: as, y.1 :: bs, (c = .type "bytearray" ∧ 0 ≤ x ∧ x ≤ 1000 ∧ x < b.size ∧ b.size ≤ sizeLine ∧ 0 ≤ v ∧ v < 256) ∧ ps⟩
                | _ => ⟨κ, .call c' none g l k, p, L, m, i, as, bs, ps⟩
            | none => ⟨κ, .call c' none g l k, p, L, m, i, as, bs, ps⟩
          | [] => ⟨κ, .call c' none g l k, p, L, m, i, as, bs, ps⟩
        | .bai a v => match tr with
          | j :: tr' => match getL L j with
            | some y => match y.2 with
              | ⟨c, d, dt, sl⟩ => match dt with
                | .bytearray _ n => match v with
                  | .bytes b _ => setK L j ⟨.type "bytearray", none, .bytearray b 0, #[]⟩ fun L' => ih tr' ⟨κ, k (.ok (.ret .none)), p, L', m, i, a :: as, y.1 :: bs, (c = .type "bytearray" ∧ d = none ∧ n = 0 ∧ sl = #[] ∧ b.size ≤ sizeLine ∧ freeK G κ) ∧ ps⟩
                  | .ref a2 => match tr' with
                    | j2 :: tr2 => match getL L j2 with
                      | some y2 => match y2.2 with
                        | ⟨c2, d2, dt2, sl2⟩ => match dt2 with
                          | .bytearray b n2 => match Nat.beq j j2 with
                            | false => setK L j ⟨.type "bytearray", none, .bytearray b 0, #[]⟩ fun L' => ih tr2 ⟨κ, k (.ok (.ret .none)), p, L', m, i, a2 :: a :: as, y2.1 :: y.1 :: bs, (c = .type "bytearray" ∧ d = none ∧ n = 0 ∧ sl = #[] ∧ b.size ≤ sizeLine ∧ freeK G κ ∧ c2 = .type "bytearray" ∧ d2 = none ∧ n2 = 0 ∧ sl2 = #[]) ∧ ps⟩
                            | true => ⟨κ, .call c' none g l k, p, L, m, i, as, bs, ps⟩
                          | _ => ⟨κ, .call c' none g l k, p, L, m, i, as, bs, ps⟩
                      | none => ⟨κ, .call c' none g l k, p, L, m, i, as, bs, ps⟩
                    | [] => ⟨κ, .call c' none g l k, p, L, m, i, as, bs, ps⟩
                  | _ => ⟨κ, .call c' none g l k, p, L, m, i, as, bs, ps⟩
                | _ => ⟨κ, .call c' none g l k, p, L, m, i, as, bs, ps⟩
            | none => ⟨κ, .call c' none g l k, p, L, m, i, as, bs, ps⟩
          | [] => ⟨κ, .call c' none g l k, p, L, m, i, as, bs, ps⟩
        | .app a v => match tr with
          | j :: tr' => match getL L j with
            | some x => match x.2 with
              | ⟨c, d, dt, sl⟩ => match dt with
                | .seq xs n => setK L j ⟨c, d, .seq (xs.push v) (n + 1), sl⟩ fun L' => ih tr' ⟨κ, k (.ok (.ret .none)), p, L', m, i, a :: as, x.1 :: bs, (c = .type "list" ∧ xs.size ≤ sizeLine) ∧ ps⟩
                | _ => ⟨κ, .call c' none g l k, p, L, m, i, as, bs, ps⟩
            | none => ⟨κ, .call c' none g l k, p, L, m, i, as, bs, ps⟩
          | [] => ⟨κ, .call c' none g l k, p, L, m, i, as, bs, ps⟩
    | t => ⟨κ, t, p, L, m, i, as, bs, ps⟩
noncomputable def runX (S : Setting) (G : Ctx) (N T : Nat) (n : Nat) : List Nat → St → St :=
  @Nat.rec (fun _ => List Nat → St → St) (fun _ st => st) (fun _ ih => step1 S G N T ih) n

abbrev PFin := Fin → Pos → Shared → Prop
abbrev PErr := Value → Pos → Shared → Prop
noncomputable def QE (M : Model) (G : Ctx) (Q : PFin) (E : PErr) : K → PFin × PErr
  | .base => (Q, E)
  | .ret c hd k p κ => (Sem.finPost M ((ctxOf G κ).enter c hd p) (fun r s' => Sem.wp M (ctxOf G κ) (k r) (QE M G Q E κ).1 (QE M G Q E κ).2 p s'),
    fun e _ s' => Sem.wp M (ctxOf G κ) (k (.error e)) (QE M G Q E κ).1 (QE M G Q E κ).2 p s')
def W (M : Model) (G : Ctx) (Q : PFin) (E : PErr) (κ : K) (t : Sem Fin) (p : Pos) (s : Shared) : Prop :=
  Sem.wp M (ctxOf G κ) t (QE M G Q E κ).1 (QE M G Q E κ).2 p s

structure HR (h0 : Heap) (A0 : List Addr) (L : List (Addr × Obj)) (m : Nat) (h : Heap) : Prop where
  size : h.objs.size = h0.objs.size + m
  get : ∀ p ∈ L, h.get? p.1 = some p.2
  nd : (L.map (·.1)).Nodup
  own : ∀ p ∈ L, p.1 ∈ A0 ∨ h0.objs.size ≤ p.1
  keep : ∀ b o, h0.get? b = some o → b ∉ A0 → h.get? b = some o

theorem HR.start {h : Heap} {L : List (Addr × Obj)} (hg : ∀ p ∈ L, h.get? p.1 = some p.2) (hn : (L.map (·.1)).Nodup) : HR h (L.map (·.1)) L 0 h :=
  ⟨rfl, hg, hn, fun _ hp => .inl (List.mem_map_of_mem hp), fun _ _ e _ => e⟩
theorem HR.alloc {h0 h : Heap} {A0 : List Addr} {L : List (Addr × Obj)} {m : Nat} (H : HR h0 A0 L m h) (o : Obj) (hf : o.isFreed = false) :
    HR h0 A0 ((h0.objs.size + m, o) :: L) (m + 1) (h.push o) := by
  have e : h.objs.size = h0.objs.size + m := H.size
  refine ⟨by rw [Heap.size_push, e, Nat.add_assoc], fun p hp => ?_, ?_, fun p hp => ?_, fun b o' hb hn => Heap.get?_push_of_some _ (H.keep b o' hb hn)⟩
  · rcases List.mem_cons.mp hp with rfl | hp
    · rw [← e]; exact Heap.get?_push_size _ hf
    · exact Heap.get?_push_of_some _ (H.get p hp)
  · rw [List.map_cons, List.nodup_cons]
    refine ⟨fun hm => ?_, H.nd⟩
    obtain ⟨p, hp, hq⟩ := List.mem_map.mp hm
    have hq' : p.1 = h0.objs.size + m := hq
    exact absurd (Heap.lt_size (H.get p hp)) (Nat.not_lt.mpr (Nat.le_of_eq (e.trans hq'.symm)))
  · rcases List.mem_cons.mp hp with rfl | hp
    · exact .inr (Nat.le_add_right ..)
    · exact H.own p hp
theorem HR.put {h0 h h' : Heap} {A0 : List Addr} {L : List (Addr × Obj)} {m : Nat} (H : HR h0 A0 L m h) {j : Nat} {p : Addr × Obj} (hj : L[j]? = some p) (o : Obj) (hg : h'.get? p.1 = some o) (hB : Heap.SameBut p.1 h h') :
    HR h0 A0 (setL L j o) m h' := by
  have hp := List.mem_of_getElem? hj
  refine ⟨hB.1.trans H.size, fun q hq => ?_, by rw [setL_map]; exact H.nd, fun q hq => ?_, fun b o' hb hn => ?_⟩
  · rcases setL_mem o L j q H.nd hq with ⟨q', hq', rfl⟩ | ⟨hq1, hq2⟩
    · rw [hj] at hq'; cases hq'
      exact hg
    · rw [hB.2 _ (hq2 p hj)]; exact H.get q hq1
  · have : q.1 ∈ (setL L j o).map (·.1) := List.mem_map_of_mem hq
    rw [setL_map] at this
    obtain ⟨q', hq', e⟩ := List.mem_map.mp this
    rw [← e]; exact H.own q' hq'
  · have hne : b ≠ p.1 := by
      rintro rfl
      rcases H.own p hp with h | h
      · exact hn h
      · exact absurd (Heap.lt_size hb) (Nat.not_lt.mpr h)
    rw [hB.2 _ hne]; exact H.keep b o' hb hn
theorem HR.update {h0 h : Heap} {A0 : List Addr} {L : List (Addr × Obj)} {m : Nat} (H : HR h0 A0 L m h) {j : Nat} {p : Addr × Obj} (hj : L[j]? = some p) (f : Obj → Obj) (o : Obj) (ho : f p.2 = o) (hf : o.isFreed = false) :
    HR h0 A0 (setL L j o) m (h.update p.1 f) := by
  have hp := List.mem_of_getElem? hj
  refine ⟨by rw [Heap.size_after_update]; exact H.size, fun q hq => ?_, by rw [setL_map]; exact H.nd, fun q hq => ?_, fun b o' hb hn => ?_⟩
  · rcases setL_mem o L j q H.nd hq with ⟨q', hq', rfl⟩ | ⟨hq1, hq2⟩
    · rw [hj] at hq'; cases hq'
      have := Heap.get?_update_self f (H.get p hp) (by rw [ho]; exact hf)
      rw [ho] at this; exact this
    · rw [Heap.get?_update_other _ _ (Ne.symm (hq2 p hj))]; exact H.get q hq1
  · have : q.1 ∈ (setL L j o).map (·.1) := List.mem_map_of_mem hq
    rw [setL_map] at this
    obtain ⟨q', hq', e⟩ := List.mem_map.mp this
    rw [← e]; exact H.own q' hq'
  · have hne : p.1 ≠ b := by
      rintro rfl
      rcases H.own p hp with h | h
      · exact hn h
      · exact absurd (Heap.lt_size hb) (Nat.not_lt.mpr h)
    rw [Heap.get?_update_other _ _ hne]; exact H.keep b o' hb hn


section
variable {prog : Program} {w : World} {G : Ctx} {Q : PFin} {E : PErr} {s : Shared} {κ : K} {p : Pos}
theorem W_call {c : Code} {hd : Option Value} {g : Bool} {l : List Value} {k : Result → Sem Fin}
    (h : wpCode (model prog w) ((ctxOf G κ).enter c hd p) (fun r s' => W (model prog w) G Q E κ (k r) p s') p s) : W (model prog w) G Q E κ (.call c hd g l k) p s := by
  show Sem.wp _ _ _ _ _ _ _
  rw [Sem.wp_call]; exact h
theorem W_enter {c : Code} {hd : Option Value} {k : Result → Sem Fin} (h : W (model prog w) G Q E (.ret c hd k p κ) (den c) p s) :
    wpCode (model prog w) ((ctxOf G κ).enter c hd p) (fun r s' => W (model prog w) G Q E κ (k r) p s') p s := by
  rw [wpCode_iff_wp]
  show Sem.wp _ _ (denote table c) _ _ _ _
  rw [den_eq]; exact h
theorem W_again {c c' : Code} {hd : Option Value} {k : Result → Sem Fin} {p' : Pos} (hq : c'.quiet = true) (h : W (model prog w) G Q E (.ret c' hd k p' κ) (den c') p s) :
    W (model prog w) G Q E (.ret c hd k p' κ) (.pure (.again c')) p s := by
  show Sem.wp _ _ _ _ _ _ _
  rw [Sem.wp_pure]
  refine ⟨hq, ?_⟩
  rw [wpCode_iff_wp]
  show Sem.wp _ _ (denote table c') _ _ _ _
  rw [den_eq]; exact h
theorem W_done {c : Code} {hd : Option Value} {k : Result → Sem Fin} {f : Flow} {p' : Pos} (h : W (model prog w) G Q E κ (k (.ok f)) p' s) :
    W (model prog w) G Q E (.ret c hd k p' κ) (.pure (.done f)) p s := by
  show Sem.wp _ _ _ _ _ _ _
  rw [Sem.wp_pure]; exact h
theorem W_raise {c : Code} {hd : Option Value} {k : Result → Sem Fin} {e : Value} {p' : Pos} (h : W (model prog w) G Q E κ (k (.error e)) p' s) :
    W (model prog w) G Q E (.ret c hd k p' κ) (.raise e) p s := by
  show Sem.wp _ _ _ _ _ _ _
  rw [Sem.wp_raise]; exact h
theorem W_load {a : Addr} {q : Option Value} {o : Obj} {k : Obj → Sem Fin} (ho : s.heap.get? a = some o) (h : W (model prog w) G Q E κ (k o) p s) : W (model prog w) G Q E κ (.load a q k) p s := by
  show Sem.wp _ _ _ _ _ _ _
  rw [Sem.wp_load]; exact ⟨o, ho, h⟩
theorem W_alive {a : Addr} {o : Obj} {k : Option Obj → Sem Fin} (ho : s.heap.get? a = some o) (h : W (model prog w) G Q E κ (k (some o)) p s) : W (model prog w) G Q E κ (.loadIfAlive a k) p s := by
  show Sem.wp _ _ _ _ _ _ _
  rw [Sem.wp_loadIfAlive, ho]; exact h
theorem W_update {a : Addr} {q : Option Value} {o : Obj} {f : Obj → Obj} {k : Unit → Sem Fin} (ho : s.heap.get? a = some o) (h : W (model prog w) G Q E κ (k ()) p { s with heap := s.heap.update a f }) : W (model prog w) G Q E κ (.update a q f k) p s := by
  show Sem.wp _ _ _ _ _ _ _
  rw [Sem.wp_update]; exact ⟨by rw [ho]; rfl, h⟩
theorem W_rule {tag : String} {k : Unit → Sem Fin} (h : W (model prog w) G Q E κ (k ()) p s) : W (model prog w) G Q E κ (.rule tag k) p s := by
  show Sem.wp _ _ _ _ _ _ _
  rw [Sem.wp_rule]; exact h
theorem W_at {q : Pos} {k : Unit → Sem Fin} (h : W (model prog w) G Q E κ (k ()) q s) : W (model prog w) G Q E κ (.at q k) p s := by
  show Sem.wp _ _ _ _ _ _ _
  rw [Sem.wp_at]; exact h
theorem W_point {l : List Value} {k : Unit → Sem Fin} (h : W (model prog w) G Q E κ (k ()) p s) : W (model prog w) G Q E κ (.point l k) p s := by
  show Sem.wp _ _ _ _ _ _ _
  rw [Sem.wp_point]; exact h
theorem W_ask {k : Setting → Sem Fin} (h : W (model prog w) G Q E κ (k ⟨prog, w.params⟩) p s) : W (model prog w) G Q E κ (.ask k) p s := by
  show Sem.wp _ _ _ _ _ _ _
  rw [Sem.wp_ask]; exact h
theorem W_stack {k : List (Code × Pos) → Sem Fin} (h : W (model prog w) G Q E κ (k (((ctxOf G κ).code, p) :: (ctxOf G κ).below)) p s) : W (model prog w) G Q E κ (.stack k) p s := by
  show Sem.wp _ _ _ _ _ _ _
  rw [Sem.wp_stack]; exact h
theorem W_handled {own : Bool} {k : Option Value → Sem Fin} (h : W (model prog w) G Q E κ (k (if own then (ctxOf G κ).own else (ctxOf G κ).handled)) p s) : W (model prog w) G Q E κ (.handled own k) p s := by
  show Sem.wp _ _ _ _ _ _ _
  rw [Sem.wp_handled]; exact h
theorem below_self (Γ : Ctx) : Γ.Below ⟨Γ.handled, frameCount Γ.below, some (envsOf Γ.below), some (guardsOf Γ.below), unitsOf Γ.below⟩ :=
  ⟨rfl, Nat.le_refl _, fun _ h => Option.some.inj h, fun _ h => Option.some.inj h, Nat.le_refl _⟩
theorem W_alloc {o : Obj} {k : Addr → Sem Fin} (h : W (model prog w) G Q E κ (k s.heap.objs.size) p { s with heap := s.heap.push o }) : W (model prog w) G Q E κ (.alloc o k) p s := by
  show Sem.wp _ _ _ _ _ _ _
  rw [Sem.wp_alloc]; exact h
theorem W_fresh {k : Tok → Sem Fin} (h : W (model prog w) G Q E κ (k s.toks) p { s with toks := s.toks + 1 }) : W (model prog w) G Q E κ (.fresh k) p s := by
  show Sem.wp _ _ _ _ _ _ _
  rw [Sem.wp_fresh]; exact h
end

theorem ov_mul {prog : Program} {w : World} {A : Around} {R : Result → Shared → Prop} {s : Shared} {a b : Int} {t u : Tok} (h : R (.ok (.ret (.int (a * b) s.toks))) { s with toks := s.toks + 1 }) (hm : IntMulOk a b) :
    codeAny (model prog w) A (.call (.builtin "int.__mul__") ⟨[.int a t, .int b u], []⟩) R s := by
  refine codeAny_call_builtin PyProof.Rows.slot_int_mul.plain PyProof.Rows.entry_int_mul (PyProof.Rows.slot_int_mul.check _ _ _ _ _ _ _ _ (typeIs_int s a t) (PyProof.Rows.args_int_mul _ _) ?_)
  show wpAny _ _ (ite _ _ _ : Sem Fin) _ _ s
  rw [if_neg hm]
  exact wpAny_bind (wpAny_mkInt (wpAny_pure h))
theorem ov_app {prog : Program} {w : World} {A : Around} {R : Result → Shared → Prop} {s : Shared} {a : Addr} {v : Value} {x : Value} {d : Option Addr} {xs : Array Value} {n : Nat} {sl : Array (Option Value)} (ho : s.heap.get? a = some ⟨x, d, .seq xs n, sl⟩) (hx : x = .type "list") (hz : xs.size ≤ sizeLine)
    (h : R (.ok (.ret .none)) { s with heap := s.heap.update a (Obj.mapSeq (·.push v)) }) :
    codeAny (model prog w) A (.call (.builtin "list.append") ⟨[.ref a, v], []⟩) R s := by
  subst hx
  have hT : s.TypeIs (.ref a) "list" := ⟨_, ho, rfl⟩
  refine codeAny_call_builtin slot_list_append.plain entry_list_append (slot_list_append.check _ _ _ _ _ _ _ _ hT (args_list_append _ _) ?_)
  show wpAny _ _ (updateSeq a (·.push v) >>= fun _ => ret .none) _ _ s
  exact wpAny_bind (wpAny_updateSeq ho rfl (wpAny_pure h))

theorem gives_code {prog : Program} {w : World} {A : Around} {R : Result → Shared → Prop} {s : Shared} {T : String} {name : Str} {id : String} {B : Builtin} {self : Value} {rest : List Value} {m : Made}
    (slot : Slot T name id) (hT : s.TypeIs self T) (entry : entryFor table id = some B) (args : argsOk id ⟨self :: rest, []⟩) (g : Gives (B ⟨self :: rest, []⟩) m)
    (h : m.post (fun v s' => R (.ok (.ret v)) s') s) : codeAny (model prog w) A (.call (.builtin id) ⟨self :: rest, []⟩) R s :=
  codeAny_call_builtin slot.plain entry (slot.check _ _ _ _ _ _ _ _ hT args (g prog w A R s h))
theorem bits_le {x : Int} {k : Nat} (h : x.natAbs < 2 ^ k) : Builtin.Int.intBits x ≤ k := by
  unfold Builtin.Int.intBits
  split
  · omega
  · rename_i hx
    have : x.natAbs ≠ 0 := by
      intro e
      apply hx
      simpa using e
    have := (Nat.log2_lt this).mpr h
    omega
theorem gives_shl (x y : Int) (t u : Tok) (h0 : 0 ≤ x) (h1 : x < 256) (h2 : 0 ≤ y) (h3 : y ≤ 8) : Gives (Builtin.«int.__lshift__» ⟨[.int x t, .int y u], []⟩) (.int (x * 2 ^ y.toNat)) := by
  by_cases hx : (x == 0) = true
  · have e : x * 2 ^ y.toNat = 0 := by
      have : x = 0 := by simpa using hx
      rw [this]; simp
    rw [e]
    exact AutoIntG6.int___lshift___int_int_1 x t y u (by omega) hx
  · have hb : Builtin.Int.intBits x ≤ 8 := bits_le (by omega)
    have hc0 : ¬ y < 0 := by omega
    have hc2 : ¬ (((Builtin.Int.intBits x : Nat) : Int) + 29) / 30 + y / 30 + (if (y % 30 == 0) = true then 0 else 1) > Builtin.maxDigits := by
      unfold Builtin.maxDigits
      split <;> omega
    have hc3 : ¬ Builtin.Int.intTooBig (((Builtin.Int.intBits x : Nat) : Int) + y) = true := by
      unfold Builtin.Int.intTooBig
      have : (bitsLine : Int) = 134217728 := by decide +kernel
      simp only [decide_eq_true_eq]
      omega
    refine .of_wp fun M A E s Q h => ?_
    obtain ⟨hp, g, d, tk, os⟩ := s
    wp_walk
    rw [if_neg hc2]
    show wpAny M A (if Builtin.Int.intTooBig (((Builtin.Int.intBits x : Nat) : Int) + y) = true then _ else _) _ _ _
    rw [if_neg hc3]
    exact wpAny_bind (wpAny_mkInt (wpAny_pure ⟨_, rfl, h⟩))
theorem gives_shr (x y : Int) (t u : Tok) (h0 : 0 ≤ x) (h2 : 0 ≤ y) : Gives (Builtin.«int.__rshift__» ⟨[.int x t, .int y u], []⟩) (.int (x.fdiv (2 ^ y.toNat))) := by
  by_cases hb : y ≥ ((Builtin.Int.intBits x : Nat) : Int)
  · have e : x.fdiv (2 ^ y.toNat) = (if x < 0 then -1 else 0) := by
      rw [if_neg (by omega)]
      rw [Int.fdiv_eq_ediv_of_nonneg _ (by exact Int.le_of_lt (Int.pow_pos (by decide)))]
      refine Int.ediv_eq_zero_of_lt h0 ?_
      unfold Builtin.Int.intBits at hb
      split at hb
      · rename_i hx
        have : x = 0 := by simpa using hx
        rw [this]; exact Int.pow_pos (by decide)
      · have h1 : x.natAbs.log2 + 1 ≤ y.toNat := by omega
        have h2 := @Nat.lt_log2_self x.natAbs
        have h3 : 2 ^ (x.natAbs.log2 + 1) ≤ 2 ^ y.toNat := Nat.pow_le_pow_right (by decide) h1
        have h4 : x.natAbs < 2 ^ y.toNat := Nat.lt_of_lt_of_le h2 h3
        have : ((x.natAbs : Nat) : Int) < ((2 ^ y.toNat : Nat) : Int) := by exact_mod_cast h4
        rw [Int.natAbs_of_nonneg h0] at this
        simpa using this
    rw [e]
    exact AutoIntG9.int___rshift___int_int_1 x t y u (by omega) hb
  · exact AutoIntG0.int___rshift___int_int_2 x t y u (by omega) hb
theorem gives_pow (x y : Int) (t u : Tok) (h0 : x = 2) (h2 : 0 ≤ y) (h3 : y ≤ 8) : Gives (Builtin.«int.__pow__» ⟨[.int x t, .int y u], []⟩) (.int (x ^ y.toNat)) := by
  subst h0
  by_cases hy : (y == 0) = true
  · have : y = 0 := by simpa using hy
    subst this
    exact AutoIntG9.int___pow___int_int_0 2 t 0 u (by omega) rfl
  · refine AutoIntG2.int___pow___int_int_4 2 t y u (by omega) hy (by decide) (by decide) ?_
    have : Builtin.Int.intBits 2 = 2 := by decide +kernel
    rw [this]
    unfold Builtin.Int.intTooBig
    have : (bitsLine : Int) = 134217728 := by decide +kernel
    simp only [decide_eq_true_eq]
    omega
section
variable {prog : Program} {w : World} {A : Around} {R : Result → Shared → Prop} {s : Shared}
theorem ov_get {a : Addr} {k : Int} {t : Tok} {x : Value} {v : Value} {d : Option Addr} {xs : Array Value} {n : Nat} {sl : Array (Option Value)} (ho : s.heap.get? a = some ⟨x, d, .seq xs n, sl⟩) (hc : x = .type "list") (h0 : 0 ≤ k) (hk : k ≤ 1000) (hx : xs[k.toNat]? = some v)
    (h : R (.ok (.ret v)) s) : codeAny (model prog w) A (.call (.builtin "list.__getitem__") ⟨[.ref a, .int k t], []⟩) R s := by
  subst hc
  have hT : s.TypeIs (.ref a) "list" := ⟨_, ho, rfl⟩
  refine codeAny_call_builtin slot_list_getitem.plain entry_list_getitem (slot_list_getitem.check _ _ _ _ _ _ _ _ hT (args_list_getitem _ _) ?_)
  show wpAny _ _ (Builtin.List.listSubscript? (.int k t) >>= _) _ _ s
  refine wpAny_bind (wpAny_listSubscript_int (fitsIndex_of h0 (by omega)) ?_)
  obtain ⟨j, rfl⟩ := Int.eq_ofNat_of_zero_le h0
  have hx' : xs[j]? = some v := hx
  show wpAny _ _ ((seqItemAt a j >>= fun r => pure (r.map (j, ·))) >>= _) _ _ s
  refine wpAny_bind (wpAny_bind (wpAny_seqItemAt ho rfl (wpAny_pure ?_)))
  rw [hx']
  first
    | exact wpAny_bind (wpAny_pure (wpAny_pure h))
    | exact wpAny_pure h
end
theorem order_self : ∀ b : List UInt8, Builtin.Bytes.order b b = .eq
  | [] => rfl
  | x :: xs => by
    unfold Builtin.Bytes.order
    rw [if_neg (UInt8.lt_irrefl x), if_neg (UInt8.lt_irrefl x)]
    exact order_self xs
namespace FS
theorem slot : Slot "bytearray" "__setitem__" "bytearray.__setitem__" :=
  .of (owner := "bytearray") (n := "__setitem__") (by rw [typeLookup_type, builtinLookup_eq_fast]; kernel_rfl) (by decide +kernel) (by decide +kernel) (by decide +kernel)
    (by first | exact .inl (by decide +kernel) | exact .inr (by decide +kernel)) (by rw [isSubtype_type]; kernel_rfl)
theorem entry : entryFor table "bytearray.__setitem__" = some Builtin.«bytearray.__setitem__» := entryFor_of_tree (by kernel_rfl)
theorem args (a b c : Value) : argsOk "bytearray.__setitem__" ⟨[a, b, c], []⟩ := by unfold argsOk; kernel_rfl
end FS
section
variable {prog : Program} {w : World} {A : Around} {R : Result → Shared → Prop} {s : Shared}
theorem ov_ne {x : Array UInt8} {t u : Tok} (h : R (.ok (.ret (.bool false))) s) : codeAny (model prog w) A (.call (.builtin "bytes.__ne__") ⟨[.bytes x t, .bytes x u], []⟩) R s := by
  refine gives_code FB.slot_bytes_ne (typeIs_bytes s x t) FB.entry_bytes_ne (FB.args_bytes_ne_2 _ _) (gives_bytes_ne x x t u) ?_
  have e : (x.toList != x.toList) = false := by simp
  rw [e]; exact h
theorem ov_set {a : Addr} {k v : Int} {t u : Tok} {x : Value} {d : Option Addr} {b : Array UInt8} {n : Nat} {sl : Array (Option Value)} (ho : s.heap.get? a = some ⟨x, d, .bytearray b n, sl⟩) (hc : x = .type "bytearray") (h0 : 0 ≤ k) (hk : k ≤ 1000)
    (hx : k < b.size) (hz : b.size ≤ sizeLine) (hv : 0 ≤ v) (hv2 : v < 256)
    (h : R (.ok (.ret .none)) { s with heap := s.heap.update a (Obj.mapBytearray (·.setIfInBounds k.toNat v.toNat.toUInt8)) }) : codeAny (model prog w) A (.call (.builtin "bytearray.__setitem__") ⟨[.ref a, .int k t, .int v u], []⟩) R s := by
  subst hc
  have hT : s.TypeIs (.ref a) "bytearray" := ⟨_, ho, rfl⟩
  refine codeAny_call_builtin FS.slot.plain FS.entry (FS.slot.check _ _ _ _ _ _ _ _ hT (FS.args _ _ _) ?_)
  show wpAny _ _ (Builtin.Bytes.subscript? (.int k t) >>= _) _ _ s
  unfold Builtin.Bytes.subscript?
  refine wpAny_bind (wpAny_bind (wpAny_specialOf (T := "int") (typeIs_int s k t) int_index ?_))
  show wpAny _ _ (asIndex (.int k t) >>= _) _ _ s
  refine wpAny_bind (wpAny_of_eq (a := k) rfl ?_)
  have hfit : Builtin.Bytes.fitsIndex k = true := by
    unfold Builtin.Bytes.fitsIndex
    simp only [Bool.and_eq_true, decide_eq_true_eq]
    omega
  rw [hfit]
  refine wpAny_pure ?_
  show wpAny _ _ (Builtin.Bytes.byteValue (.int v u) >>= _) _ _ s
  unfold Builtin.Bytes.byteValue
  refine wpAny_bind (wpAny_bind (wpAny_of_eq (rfl : asIndex (.int v u) = pure v) ?_))
  refine bm_if_false (by simp only [Bool.or_eq_false_iff, decide_eq_false_iff_not]; omega) ?_
  refine wpAny_pure ?_
  unfold Builtin.Bytes.payload Builtin.Bytes.payload?
  refine wpAny_bind (wpAny_bind (wpAny_bind (wpAny_load ho ?_)))
  refine wpAny_pure (wpAny_pure ?_)
  rw [seqIndex_of h0 hx]
  show wpAny _ _ (updateBytearray a (·.setIfInBounds k.toNat v.toNat.toUInt8) >>= _) _ _ _
  unfold updateBytearray
  refine wpAny_bind (wpAny_bind (wpAny_load ho ?_))
  show wpAny _ _ (update a (Obj.mapBytearray (·.setIfInBounds k.toNat v.toNat.toUInt8)) >>= fun _ => lookBehind a) _ _ _
  refine wpAny_bind (wpAny_update ho ?_)
  refine wpAny_lookBehind (Heap.get?_update_self _ ho rfl) ?_ ?_
  · show (if (b.setIfInBounds k.toNat v.toNat.toUInt8).size > sizeLine then some "bytearray:memory" else none) = none
    rw [if_neg]
    rw [Array.size_setIfInBounds]
    omega
  · exact wpAny_pure h
end

theorem code_eq {id nm : String} {n : Nat} (h : Nat.beq (PySem.code id) n = true) (hn : n = PySem.code nm) : id = nm := PySem.code_inj _ _ ((Nat.eq_of_beq_eq_true h).trans hn)
theorem ov_op {prog : Program} {w : World} {A : Around} {R : Result → Shared → Prop} {s : Shared} {c : Code} {z : Int} {P : Prop} (h : ovr c = .op z P) (hP : P) (hR : R (.ok (.ret (.int z s.toks))) { s with toks := s.toks + 1 }) : codeAny (model prog w) A c R s := by
  unfold ovr ovII ovRV ovB ovS at h
  repeat' (split at h)
  all_goals first | cases h | skip
  · rename Nat.beq _ 116512245094328231196454762 = true => hq
    obtain rfl := code_eq (nm := "int.__mul__") hq (by decide +kernel)
    exact ov_mul hR hP
  · rename Nat.beq _ 116512447577011902704086890 = true => hq
    obtain rfl := code_eq (nm := "int.__pow__") hq (by decide +kernel)
    exact gives_code F.slot_int_pow (typeIs_int s _ _) F.entry_int_pow (F.args_int_pow_2 _ _) (gives_pow _ _ _ _ hP.1 hP.2.1 hP.2.2) hR
  · rename Nat.beq _ 1954753560319954399567331122835306 = true => hq
    obtain rfl := code_eq (nm := "int.__lshift__") hq (by decide +kernel)
    exact gives_code F.slot_int_lshift (typeIs_int s _ _) F.entry_int_lshift (F.args_int_lshift_2 _ _) (gives_shl _ _ _ _ hP.1 hP.2.1 hP.2.2.1 hP.2.2.2) hR
  · rename Nat.beq _ 1954753560319954401256180983099242 = true => hq
    obtain rfl := code_eq (nm := "int.__rshift__") hq (by decide +kernel)
    exact gives_code F.slot_int_rshift (typeIs_int s _ _) F.entry_int_rshift (F.args_int_rshift_2 _ _) (gives_shr _ _ _ _ hP.1 hP.2) hR
  · rename Nat.beq _ 128106770130096871752080967664072486762 = true => hq
    obtain rfl := code_eq (nm := "int.__floordiv__") hq (by decide +kernel)
    exact gives_code F.slot_int_floordiv (typeIs_int s _ _) F.entry_int_floordiv (F.args_int_floordiv_2 _ _) (AutoIntG4.int___floordiv___int_int_1 _ _ _ _ (by simpa using hP.1) (by rw [hP.2]; decide)) hR
theorem ov_val {prog : Program} {w : World} {A : Around} {R : Result → Shared → Prop} {s : Shared} {c : Code} {v : Value} {P : Prop} (h : ovr c = .val v P) (hP : P) (hR : R (.ok (.ret v)) s) : codeAny (model prog w) A c R s := by
  unfold ovr ovII ovRV ovB ovS at h
  repeat' (split at h)
  all_goals first | cases h | skip
  · rename Nat.beq _ _ = true => hq
    obtain rfl := code_eq (nm := "bytes.__ne__") hq (by decide +kernel)
    cases hP
    exact ov_ne hR
theorem ovr_app {c : Code} {a : Addr} {v : Value} (h : ovr c = .app a v) : c = .call (.builtin "list.append") ⟨[.ref a, v], []⟩ := by
  unfold ovr ovII ovRV ovB ovS at h
  repeat' (split at h)
  all_goals first | cases h | skip
  · rename Nat.beq _ _ = true => hq
    obtain rfl := code_eq (nm := "list.append") hq (by decide +kernel)
    rfl
theorem ovr_get {c : Code} {a : Addr} {i : Int} (h : ovr c = .get a i) : ∃ t, c = .call (.builtin "list.__getitem__") ⟨[.ref a, .int i t], []⟩ := by
  unfold ovr ovII ovRV ovB ovS at h
  repeat' (split at h)
  all_goals first | cases h | skip
  · rename Nat.beq _ 128106587276438692081757506308484131437 = true => hq
    obtain rfl := code_eq (nm := "list.__getitem__") hq (by decide +kernel)
    exact ⟨_, rfl⟩
theorem ovr_set {c : Code} {a : Addr} {i v : Int} (h : ovr c = .set a i v) : ∃ t u, c = .call (.builtin "bytearray.__setitem__") ⟨[.ref a, .int i t, .int v u], []⟩ := by
  unfold ovr ovII ovRV ovB ovS at h
  repeat' (split at h)
  all_goals first | cases h | skip
  · rename Nat.beq _ _ = true => hq
    obtain rfl := code_eq (nm := "bytearray.__setitem__") hq (by decide +kernel)
    exact ⟨_, _, rfl⟩

theorem ovr_bai {c : Code} {a : Addr} {v : Value} (h : ovr c = .bai a v) : c = .call (.builtin "bytearray.__init__") ⟨[.ref a, v], []⟩ := by
  unfold ovr ovII ovRV ovB ovS at h
  repeat' (split at h)
  all_goals first | cases h | skip
  · rename Nat.beq _ 8395602628992143088491114474801878304914019 = true => hq
    obtain rfl := code_eq (nm := "bytearray.__init__") hq (by decide +kernel)
    rfl

def Ext (a b : St) : Prop := ∃ X Y, b.as = X ++ a.as ∧ b.bs = Y ++ a.bs ∧ X.length = Y.length ∧ (b.ps → a.ps)
theorem Ext.refl (a : St) : Ext a a := ⟨[], [], rfl, rfl, rfl, id⟩
theorem Ext.same {a a' b : St} (h : Ext a' b) (h1 : a'.as = a.as) (h2 : a'.bs = a.bs) (h3 : a'.ps → a.ps) : Ext a b := by
  obtain ⟨X, Y, e1, e2, e3, e4⟩ := h
  exact ⟨X, Y, by rw [e1, h1], by rw [e2, h2], e3, fun z => h3 (e4 z)⟩
theorem Ext.one {a a' b : St} {x y : Addr} (h : Ext a' b) (h1 : a'.as = x :: a.as) (h2 : a'.bs = y :: a.bs) (h3 : a'.ps → a.ps) : Ext a b := by
  obtain ⟨X, Y, e1, e2, e3, e4⟩ := h
  exact ⟨X ++ [x], Y ++ [y], by rw [e1, h1]; simp, by rw [e2, h2]; simp, by simp [e3], fun z => h3 (e4 z)⟩
theorem Ext.two {a a' b : St} {x y x2 y2 : Addr} (h : Ext a' b) (h1 : a'.as = x2 :: x :: a.as) (h2 : a'.bs = y2 :: y :: a.bs) (h3 : a'.ps → a.ps) : Ext a b := by
  obtain ⟨X, Y, e1, e2, e3, e4⟩ := h
  exact ⟨X ++ [x2, x], Y ++ [y2, y], by rw [e1, h1]; simp, by rw [e2, h2]; simp, by simp [e3], fun z => h3 (e4 z)⟩
theorem Ext.eq2 {a a' b : St} {x y x2 y2 : Addr} (h : Ext a' b) (h1 : a'.as = x2 :: x :: a.as) (h2 : a'.bs = y2 :: y :: a.bs) (he : b.as = b.bs) (hl : a.as.length = a.bs.length) : x = y ∧ x2 = y2 ∧ a.as = a.bs := by
  obtain ⟨X, Y, e1, e2, e3, _⟩ := h
  rw [e1, e2, h1, h2] at he
  have := (List.append_inj he e3).2
  obtain ⟨e4, e5⟩ := List.cons.inj this
  obtain ⟨e6, e7⟩ := List.cons.inj e5
  exact ⟨e6, e4, e7⟩
theorem Ext.eq {a a' b : St} {x y : Addr} (h : Ext a' b) (h1 : a'.as = x :: a.as) (h2 : a'.bs = y :: a.bs) (he : b.as = b.bs) (hl : a.as.length = a.bs.length) : x = y ∧ a.as = a.bs := by
  obtain ⟨X, Y, e1, e2, e3, _⟩ := h
  rw [e1, e2, h1, h2] at he
  have := (List.append_inj he e3).2
  exact ⟨(List.cons.inj this).1, (List.cons.inj this).2⟩


noncomputable def aroundK (A : Around) : K → Around
  | .base => A
  | .ret c hd _ _ κ => ((aroundK A κ).mark hd).under c
noncomputable def noByPass : K → Prop
  | .base => True
  | .ret _ hd _ _ κ => hd ≠ some byPass ∧ noByPass κ
theorem in_ctx' {G : Ctx} {A : Around} (h : G.In A) : ∀ κ : K, noByPass κ → (ctxOf G κ).In (aroundK A κ)
  | .base, _ => h
  | .ret c hd _ p κ, hn => ((in_ctx' h κ hn.2).enter c hd p hn.1).in
section
variable {prog : Program} {w : World} {G : Ctx} {Q : PFin} {E : PErr} (s₀ : Shared) (A0 : List Addr)
def Sound (prog : Program) (w : World) (G : Ctx) (Q : PFin) (E : PErr) (st st' : St) : Prop :=
  Ext st st' ∧ (st'.as = st'.bs → st'.ps → st.as.length = st.bs.length →
    (∀ h, HR s₀.heap A0 st'.L st'.m h → W (model prog w) G Q E st'.κ st'.t st'.p { s₀ with heap := h, toks := s₀.toks + st'.i }) →
    ∀ h, HR s₀.heap A0 st.L st.m h → W (model prog w) G Q E st.κ st.t st.p { s₀ with heap := h, toks := s₀.toks + st.i })
theorem Sound.refl (st : St) : Sound s₀ A0 prog w G Q E st st := ⟨Ext.refl _, fun _ _ _ h => h⟩

theorem step_sound (ih : List Nat → St → St) (IH : ∀ tr st, Sound s₀ A0 prog w G Q E st (ih tr st)) (tr : List Nat) (st : St) :
    Sound s₀ A0 prog w G Q E st (step1 ⟨prog, w.params⟩ G s₀.heap.objs.size s₀.toks ih tr st) := by
  obtain ⟨κ, t, p, L, m, i, as, bs, ps⟩ := st
  cases t with
  | pure fin =>
    cases fin with
    | done f =>
      cases κ with
      | base => exact Sound.refl ..
      | ret c hd k p' κ =>
        obtain ⟨x, y⟩ := IH tr ⟨κ, k (.ok f), p', L, m, i, as, bs, ps⟩
        exact ⟨x.same rfl rfl id, fun a b c d h H => W_done (y a b c d h H)⟩
    | again c' =>
      cases κ with
      | base => exact Sound.refl ..
      | ret c hd k p' κ =>
        cases hq : c'.quiet with
        | false => simp only [step1, hq]; exact Sound.refl ..
        | true =>
          simp only [step1, hq]
          obtain ⟨x, y⟩ := IH tr ⟨.ret c' hd k p' κ, den c', p, L, m, i, as, bs, ps⟩
          exact ⟨x.same rfl rfl id, fun a b c d h H => W_again hq (y a b c d h H)⟩
  | raise e =>
    cases κ with
    | base => exact Sound.refl ..
    | ret c hd k p' κ =>
      obtain ⟨x, y⟩ := IH tr ⟨κ, k (.error e), p', L, m, i, as, bs, ps⟩
      exact ⟨x.same rfl rfl id, fun a b c d h H => W_raise (y a b c d h H)⟩
  | rule tag k =>
    obtain ⟨x, y⟩ := IH tr ⟨κ, k (), p, L, m, i, as, bs, ps⟩
    exact ⟨x.same rfl rfl id, fun a b c d h H => W_rule (y a b c d h H)⟩
  | «at» q k =>
    obtain ⟨x, y⟩ := IH tr ⟨κ, k (), q, L, m, i, as, bs, ps⟩
    exact ⟨x.same rfl rfl id, fun a b c d h H => W_at (y a b c d h H)⟩
  | point l k =>
    obtain ⟨x, y⟩ := IH tr ⟨κ, k (), p, L, m, i, as, bs, ps⟩
    exact ⟨x.same rfl rfl id, fun a b c d h H => W_point (y a b c d h H)⟩
  | ask k =>
    obtain ⟨x, y⟩ := IH tr ⟨κ, k ⟨prog, w.params⟩, p, L, m, i, as, bs, ps⟩
    exact ⟨x.same rfl rfl id, fun a b c d h H => W_ask (y a b c d h H)⟩
  | stack k =>
    obtain ⟨x, y⟩ := IH tr ⟨κ, k (((ctxOf G κ).code, p) :: (ctxOf G κ).below), p, L, m, i, as, bs, ps⟩
    exact ⟨x.same rfl rfl id, fun a b c d h H => W_stack (y a b c d h H)⟩
  | load a q k =>
    cases tr with
    | nil => exact Sound.refl ..
    | cons j tr =>
      cases hj : getL L j with
      | none => simp only [step1, hj]; exact Sound.refl ..
      | some z =>
        simp only [step1, hj]
        rw [getL_eq] at hj
        obtain ⟨x, y⟩ := IH tr ⟨κ, k z.2, p, L, m, i, a :: as, z.1 :: bs, ps⟩
        refine ⟨x.one rfl rfl id, fun a1 b1 c1 d1 h H => ?_⟩
        obtain ⟨e1, e2⟩ := x.eq (a := ⟨κ, .load a q k, p, L, m, i, as, bs, ps⟩) rfl rfl a1 c1
        exact W_load (o := z.2) (by rw [e1]; exact H.get z (List.mem_of_getElem? hj)) (y a1 b1 (congrArg (· + 1) c1) d1 h H)
  | loadIfAlive a k =>
    cases tr with
    | nil => exact Sound.refl ..
    | cons j tr =>
      cases hj : getL L j with
      | none => simp only [step1, hj]; exact Sound.refl ..
      | some z =>
        simp only [step1, hj]
        rw [getL_eq] at hj
        obtain ⟨x, y⟩ := IH tr ⟨κ, k (some z.2), p, L, m, i, a :: as, z.1 :: bs, ps⟩
        refine ⟨x.one rfl rfl id, fun a1 b1 c1 d1 h H => ?_⟩
        obtain ⟨e1, e2⟩ := x.eq (a := ⟨κ, .loadIfAlive a k, p, L, m, i, as, bs, ps⟩) rfl rfl a1 c1
        exact W_alive (o := z.2) (by rw [e1]; exact H.get z (List.mem_of_getElem? hj)) (y a1 b1 (congrArg (· + 1) c1) d1 h H)
  | update a q f k =>
    cases tr with
    | nil => exact Sound.refl ..
    | cons j tr =>
      cases hj : getL L j with
      | none => simp only [step1, hj]; exact Sound.refl ..
      | some z =>
        cases hf : f z.2 with
        | mk x d dt sl =>
          cases hz : Obj.isFreed ⟨x, d, dt, sl⟩ with
          | true => simp only [step1, hj, hf, hz]; exact Sound.refl ..
          | false =>
            simp only [step1, hj, hf, hz, setK_eq]
            rw [getL_eq] at hj
            obtain ⟨X, y⟩ := IH tr ⟨κ, k (), p, setL L j ⟨x, d, dt, sl⟩, m, i, a :: as, z.1 :: bs, ps⟩
            refine ⟨X.one rfl rfl id, fun a1 b1 c1 d1 h H => ?_⟩
            obtain ⟨e1, e2⟩ := X.eq (a := ⟨κ, .update a q f k, p, L, m, i, as, bs, ps⟩) rfl rfl a1 c1
            exact W_update (o := z.2) (by rw [e1]; exact H.get z (List.mem_of_getElem? hj)) (by
              have H' := H.update hj f _ hf hz
              rw [← e1] at H'
              exact y a1 b1 (congrArg (· + 1) c1) d1 _ H')
  | alloc o k =>
    obtain ⟨x, d, dt, sl⟩ := o
    cases hz : Obj.isFreed ⟨x, d, dt, sl⟩ with
    | true => simp only [step1, hz]; exact Sound.refl ..
    | false =>
      simp only [step1, hz]
      obtain ⟨X, y⟩ := IH tr ⟨κ, k (s₀.heap.objs.size + m), p, (s₀.heap.objs.size + m, ⟨x, d, dt, sl⟩) :: L, m + 1, i, as, bs, ps⟩
      refine ⟨X.same rfl rfl id, fun a1 b1 c1 d1 h H => W_alloc ?_⟩
      show W _ _ _ _ _ (k h.objs.size) _ _
      rw [H.size]
      exact y a1 b1 c1 d1 _ (H.alloc _ hz)
  | fresh k =>
    obtain ⟨x, y⟩ := IH tr ⟨κ, k (s₀.toks + i), p, L, m, i + 1, as, bs, ps⟩
    exact ⟨x.same rfl rfl id, fun a b c d h H => W_fresh (y a b c d h H)⟩
  | handled own k =>
    cases own with
    | true =>
      obtain ⟨x, y⟩ := IH tr ⟨κ, k (ctxOf G κ).own, p, L, m, i, as, bs, ps⟩
      exact ⟨x.same rfl rfl id, fun a b c d h H => W_handled (y a b c d h H)⟩
    | false =>
      obtain ⟨x, y⟩ := IH tr ⟨κ, k (ctxOf G κ).handled, p, L, m, i, as, bs, ps⟩
      exact ⟨x.same rfl rfl id, fun a b c d h H => W_handled (y a b c d h H)⟩
  | call c' hd g l k =>
    cases hd with
    | some hv =>
      obtain ⟨x, y⟩ := IH tr ⟨.ret c' (some hv) k p κ, den c', p, L, m, i, as, bs, ps⟩
      exact ⟨x.same rfl rfl id, fun a b c d h H => W_call (W_enter (y a b c d h H))⟩
    | none =>
      cases ho : ovr c' with
      | no =>
        simp only [step1, ho]
        obtain ⟨x, y⟩ := IH tr ⟨.ret c' none k p κ, den c', p, L, m, i, as, bs, ps⟩
        exact ⟨x.same rfl rfl id, fun a b c d h H => W_call (W_enter (y a b c d h H))⟩
      | op z P =>
        simp only [step1, ho]
        obtain ⟨x, y⟩ := IH tr ⟨κ, k (.ok (.ret (.int z (s₀.toks + i)))), p, L, m, i + 1, as, bs, P ∧ ps⟩
        refine ⟨x.same rfl rfl fun z => z.2, fun a b c d h H => W_call (ov_op ho ?_ (y a b c d h H) _ p rfl (below_self _))⟩
        obtain ⟨_, _, _, _, _, e⟩ := x
        exact (e b).1
      | val v P =>
        simp only [step1, ho]
        obtain ⟨x, y⟩ := IH tr ⟨κ, k (.ok (.ret v)), p, L, m, i, as, bs, P ∧ ps⟩
        refine ⟨x.same rfl rfl fun z => z.2, fun a b c d h H => W_call (ov_val ho ?_ (y a b c d h H) _ p rfl (below_self _))⟩
        obtain ⟨_, _, _, _, _, e⟩ := x
        exact (e b).1
      | get ad ix =>
        obtain ⟨tk, hc⟩ := ovr_get ho
        subst hc
        cases tr with
        | nil => simp only [step1, ho]; exact Sound.refl ..
        | cons j tr =>
          cases hj : getL L j with
          | none => simp only [step1, ho, hj]; exact Sound.refl ..
          | some z =>
            obtain ⟨pa, x, d, dt, sl⟩ := z
            cases dt with
            | seq xs n =>
              simp only [step1, ho, hj]
              rw [getL_eq] at hj
              obtain ⟨X, y⟩ := IH tr ⟨κ, k (.ok (.ret (.int (valI xs ix) (tokI xs ix)))), p, L, m, i, ad :: as, pa :: bs, (x = .type "list" ∧ 0 ≤ ix ∧ ix ≤ 1000 ∧ xs[ix.toNat]? = some (.int (valI xs ix) (tokI xs ix))) ∧ ps⟩
              refine ⟨X.one rfl rfl fun z => z.2, fun a1 b1 c1 d1 h H => ?_⟩
              obtain ⟨e1, e2⟩ := X.eq (a := ⟨κ, .call (.call (.builtin "list.__getitem__") ⟨[.ref ad, .int ix tk], []⟩) none g l k, p, L, m, i, as, bs, ps⟩) rfl rfl a1 c1
              subst e1
              obtain ⟨_, _, _, _, _, e⟩ := X
              have hcnd := (e b1).1
              exact W_call (ov_get (H.get _ (List.mem_of_getElem? hj)) hcnd.1 hcnd.2.1 hcnd.2.2.1 hcnd.2.2.2 (y a1 b1 (congrArg (· + 1) c1) d1 _ H) _ p rfl (below_self _))
            | _ => simp only [step1, ho, hj]; exact Sound.refl ..
      | set ad ix v =>
        obtain ⟨tk, tu, hc⟩ := ovr_set ho
        subst hc
        cases tr with
        | nil => simp only [step1, ho]; exact Sound.refl ..
        | cons j tr =>
          cases hj : getL L j with
          | none => simp only [step1, ho, hj]; exact Sound.refl ..
          | some z =>
            obtain ⟨pa, x, d, dt, sl⟩ := z
            cases dt with
            | bytearray b n =>
              simp only [step1, ho, hj, setK_eq]
              rw [getL_eq] at hj
              obtain ⟨X, y⟩ := IH tr ⟨κ, k (.ok (.ret .none)), p, setL L j ⟨x, d, .bytearray (b.setIfInBounds ix.toNat v.toNat.toUInt8) n, sl⟩, m, i, ad :: as, pa :: bs, (x = .type "bytearray" ∧ 0 ≤ ix ∧ ix ≤ 1000 ∧ ix < b.size ∧ b.size ≤ sizeLine ∧ 0 ≤ v ∧ v < 256) ∧ ps⟩
              refine ⟨X.one rfl rfl fun z => z.2, fun a1 b1 c1 d1 h H => ?_⟩
              obtain ⟨e1, e2⟩ := X.eq (a := ⟨κ, .call (.call (.builtin "bytearray.__setitem__") ⟨[.ref ad, .int ix tk, .int v tu], []⟩) none g l k, p, L, m, i, as, bs, ps⟩) rfl rfl a1 c1
              subst e1
              obtain ⟨_, _, _, _, _, e⟩ := X
              have hcnd := (e b1).1
              have hm : Obj.mapBytearray (·.setIfInBounds ix.toNat v.toNat.toUInt8) ⟨x, d, .bytearray b n, sl⟩ = ⟨x, d, .bytearray (b.setIfInBounds ix.toNat v.toNat.toUInt8) n, sl⟩ := by
                simp [Obj.mapBytearray]
              exact W_call (ov_set (H.get _ (List.mem_of_getElem? hj)) hcnd.1 hcnd.2.1 hcnd.2.2.1 hcnd.2.2.2.1 hcnd.2.2.2.2.1 hcnd.2.2.2.2.2.1 hcnd.2.2.2.2.2.2 (y a1 b1 (congrArg (· + 1) c1) d1 _ (H.update hj _ _ hm rfl)) _ p rfl (below_self _))
            | _ => simp only [step1, ho, hj]; exact Sound.refl ..
      | bai ad v =>
        have hc := ovr_bai ho
        subst hc
        cases tr with
        | nil => simp only [step1, ho]; exact Sound.refl ..
        | cons j tr =>
          cases hj : getL L j with
          | none => simp only [step1, ho, hj]; exact Sound.refl ..
          | some z =>
            obtain ⟨pa, x, d, dt, sl⟩ := z
            cases dt with
            | bytearray b0 n =>
              cases v with
              | bytes b tk =>
                simp only [step1, ho, hj, setK_eq]
                rw [getL_eq] at hj
                obtain ⟨X, y⟩ := IH tr ⟨κ, k (.ok (.ret .none)), p, setL L j ⟨.type "bytearray", none, .bytearray b 0, #[]⟩, m, i, ad :: as, pa :: bs, (x = .type "bytearray" ∧ d = none ∧ n = 0 ∧ sl = #[] ∧ b.size ≤ sizeLine ∧ freeK G κ) ∧ ps⟩
                refine ⟨X.one rfl rfl fun z => z.2, fun a1 b1 c1 d1 h H => ?_⟩
                obtain ⟨e1, e2⟩ := X.eq (a := ⟨κ, .call (.call (.builtin "bytearray.__init__") ⟨[.ref ad, .bytes b tk], []⟩) none g l k, p, L, m, i, as, bs, ps⟩) rfl rfl a1 c1
                subst e1
                obtain ⟨_, _, _, _, _, e⟩ := X
                obtain ⟨⟨rfl, rfl, rfl, rfl, hsz, hfr⟩, _⟩ := e b1
                have ho1 := H.get _ (List.mem_of_getElem? hj)
                exact W_call (bai_code ⟨_, ho1, rfl⟩ (freeK_free hfr) fun Γ' A hin hF => at_bainit_by hin hF.1 hF.2 (s := { s₀ with heap := h, toks := s₀.toks + i }) ho1 hsz fun h' hg hB => y a1 b1 (congrArg (· + 1) c1) d1 h' (H.put hj _ hg hB))
              | ref a2 =>
                cases tr with
                | nil => simp only [step1, ho, hj]; exact Sound.refl ..
                | cons j2 tr2 =>
                  cases hj2 : getL L j2 with
                  | none => simp only [step1, ho, hj, hj2]; exact Sound.refl ..
                  | some z2 =>
                    obtain ⟨pa2, x2, d2, dt2, sl2⟩ := z2
                    cases dt2 with
                    | bytearray b n2 =>
                      cases hjj : Nat.beq j j2 with
                      | true => simp only [step1, ho, hj, hj2, hjj]; exact Sound.refl ..
                      | false =>
                        simp only [step1, ho, hj, hj2, hjj, setK_eq]
                        rw [getL_eq] at hj hj2
                        obtain ⟨X, y⟩ := IH tr2 ⟨κ, k (.ok (.ret .none)), p, setL L j ⟨.type "bytearray", none, .bytearray b 0, #[]⟩, m, i, a2 :: ad :: as, pa2 :: pa :: bs, (x = .type "bytearray" ∧ d = none ∧ n = 0 ∧ sl = #[] ∧ b.size ≤ sizeLine ∧ freeK G κ ∧ x2 = .type "bytearray" ∧ d2 = none ∧ n2 = 0 ∧ sl2 = #[]) ∧ ps⟩
                        refine ⟨X.two rfl rfl fun z => z.2, fun a1 b1 c1 d1 h H => ?_⟩
                        obtain ⟨e1, e2, e3⟩ := X.eq2 (a := ⟨κ, .call (.call (.builtin "bytearray.__init__") ⟨[.ref ad, .ref a2], []⟩) none g l k, p, L, m, i, as, bs, ps⟩) rfl rfl a1 c1
                        subst e1
                        subst e2
                        obtain ⟨_, _, _, _, _, e⟩ := X
                        obtain ⟨⟨rfl, rfl, rfl, rfl, hsz, hfr, rfl, rfl, rfl, rfl⟩, _⟩ := e b1
                        have ho1 := H.get _ (List.mem_of_getElem? hj)
                        have ho2 := H.get _ (List.mem_of_getElem? hj2)
                        have hne : a2 ≠ ad := by
                          rintro rfl
                          have q1 : (L.map (·.1))[j]? = some a2 := by rw [List.getElem?_map, hj]; rfl
                          have q2 : (L.map (·.1))[j2]? = some a2 := by rw [List.getElem?_map, hj2]; rfl
                          have := (List.getElem?_inj (List.getElem?_eq_some_iff.mp q1).1 H.nd).mp (q1.trans q2.symm)
                          rw [this, Nat.beq_refl] at hjj
                          cases hjj
                        exact W_call (bai_code ⟨_, ho1, rfl⟩ (freeK_free hfr) fun Γ' A hin hF => at_bainit_ba hin hF.1 hF.2 (s := { s₀ with heap := h, toks := s₀.toks + i }) ho1 ho2 hne hsz fun h' hg hB => y a1 b1 (congrArg (· + 2) c1) d1 h' (H.put hj _ hg hB))
                    | _ => simp only [step1, ho, hj, hj2]; exact Sound.refl ..
              | _ => simp only [step1, ho, hj]; exact Sound.refl ..
            | _ => simp only [step1, ho, hj]; exact Sound.refl ..
      | app ad v =>
        have hc := ovr_app ho
        subst hc
        cases tr with
        | nil => simp only [step1, ho]; exact Sound.refl ..
        | cons j tr =>
          cases hj : getL L j with
          | none => simp only [step1, ho, hj]; exact Sound.refl ..
          | some z =>
            obtain ⟨pa, x, d, dt, sl⟩ := z
            cases dt with
            | seq xs n =>
              simp only [step1, ho, hj, setK_eq]
              rw [getL_eq] at hj
              obtain ⟨X, y⟩ := IH tr ⟨κ, k (.ok (.ret .none)), p, setL L j ⟨x, d, .seq (xs.push v) (n + 1), sl⟩, m, i, ad :: as, pa :: bs, (x = .type "list" ∧ xs.size ≤ sizeLine) ∧ ps⟩
              refine ⟨X.one rfl rfl fun z => z.2, fun a1 b1 c1 d1 h H => ?_⟩
              obtain ⟨e1, e2⟩ := X.eq (a := ⟨κ, .call (.call (.builtin "list.append") ⟨[.ref ad, v], []⟩) none g l k, p, L, m, i, as, bs, ps⟩) rfl rfl a1 c1
              subst e1
              obtain ⟨_, _, _, _, _, e⟩ := X
              have hcnd := (e b1).1
              have hm : Obj.mapSeq (·.push v) ⟨x, d, .seq xs n, sl⟩ = ⟨x, d, .seq (xs.push v) (n + 1), sl⟩ := by
                simp [Obj.mapSeq]
              exact W_call (ov_app (H.get _ (List.mem_of_getElem? hj)) hcnd.1 hcnd.2 (y a1 b1 (congrArg (· + 1) c1) d1 _ (H.update hj _ _ hm rfl)) _ p rfl (below_self _))
            | _ => simp only [step1, ho, hj]; exact Sound.refl ..
  | _ => exact Sound.refl ..
theorem run_sound : ∀ (n : Nat) (tr : List Nat) (st : St), Sound s₀ A0 prog w G Q E st (runX ⟨prog, w.params⟩ G s₀.heap.objs.size s₀.toks n tr st)
  | 0, _, st => Sound.refl s₀ A0 st
  | n + 1, tr, st => step_sound s₀ A0 _ (run_sound n) tr st
end

-- how a segment is used
structure HS (h0 h : Heap) (A0 : List Addr) (L : List (Addr × Obj)) (m : Nat) : Prop where
  size : h.objs.size = h0.objs.size + m
  get : ∀ x ∈ L, h.get? x.1 = some x.2
  nd : (L.map (·.1)).Nodup
  keep : ∀ b o, h0.get? b = some o → b ∉ A0 → h.get? b = some o

theorem HS.at {h0 h : Heap} {A0 : List Addr} {L : List (Addr × Obj)} {m : Nat} (H : HS h0 h A0 L m) (j : Nat) {a : Addr} {o : Obj} (e : L[j]? = some (a, o)) : h.get? a = some o := H.get (a, o) (List.mem_of_getElem? e)

theorem nd_ne {l : List Nat} (h : l.Nodup) (i j : Nat) {a b : Nat} (e1 : l[i]? = some a) (e2 : l[j]? = some b) (hij : (i == j) = false := by rfl) : a ≠ b := by
  rintro rfl
  have hl : i < l.length := (List.getElem?_eq_some_iff.mp e1).1
  have := (List.getElem?_inj hl h).mp (e1.trans e2.symm)
  subst this
  simp at hij
theorem nd_pick {l : List Nat} (h : l.Nodup) : ∀ (is : List Nat), is.Nodup → (is.filterMap (fun j => l[j]?)).Nodup
  | [], _ => List.nodup_nil
  | i :: is, hi => by
    rw [List.nodup_cons] at hi
    have ih := nd_pick h is hi.2
    rw [List.filterMap_cons]
    cases e : l[i]? with
    | none => exact ih
    | some a =>
      show (a :: is.filterMap (fun j => l[j]?)).Nodup
      rw [List.nodup_cons]
      refine ⟨fun hm => ?_, ih⟩
      obtain ⟨j, hj, e'⟩ := List.mem_filterMap.mp hm
      have hl : i < l.length := (List.getElem?_eq_some_iff.mp e).1
      have := (List.getElem?_inj hl h).mp (e.trans e'.symm)
      subst this
      exact hi.1 hj
theorem nd_out {l : List Nat} (h : l.Nodup) (i : Nat) (is : List Nat) {a : Nat} (e : l[i]? = some a) (hi : (i :: is).Nodup := by decide) : a ∉ is.filterMap (fun j => l[j]?) := by
  have z := nd_pick h (i :: is) hi
  rw [List.filterMap_cons, e] at z
  exact (List.nodup_cons.mp z).1
theorem nm_ne {l : List Nat} {b x : Nat} (hn : b ∉ l) (j : Nat) (e : l[j]? = some x) : b ≠ x := fun q => hn (q ▸ List.mem_of_getElem? e)

noncomputable def pickL (L : List (Addr × Obj)) (is : List Nat) : List (Addr × Obj) :=
  @List.rec Nat (fun _ => List (Addr × Obj)) [] (fun j _ ih => match getL L j with | some x => x :: ih | none => ih) is
theorem pickL_nil (L : List (Addr × Obj)) : pickL L [] = [] := rfl
theorem pickL_cons (L : List (Addr × Obj)) (j : Nat) (is : List Nat) : pickL L (j :: is) = match getL L j with | some x => x :: pickL L is | none => pickL L is := rfl
theorem pickL_mem (L : List (Addr × Obj)) : ∀ (is : List Nat) (x : Addr × Obj), x ∈ pickL L is → ∃ j ∈ is, L[j]? = some x
  | [], x, h => by rw [pickL_nil] at h; cases h
  | j :: is, x, h => by
    rw [pickL_cons] at h
    cases hj : getL L j with
    | none =>
      rw [hj] at h
      obtain ⟨j', h1, h2⟩ := pickL_mem L is x h
      exact ⟨j', .tail _ h1, h2⟩
    | some y =>
      rw [hj] at h
      rcases List.mem_cons.mp h with rfl | h
      · exact ⟨j, .head _, by rw [← getL_eq]; exact hj⟩
      · obtain ⟨j', h1, h2⟩ := pickL_mem L is x h
        exact ⟨j', .tail _ h1, h2⟩
theorem pickL_nd {L : List (Addr × Obj)} (hn : (L.map (·.1)).Nodup) : ∀ (is : List Nat), is.Nodup → ((pickL L is).map (·.1)).Nodup
  | [], _ => by rw [pickL_nil]; exact List.nodup_nil
  | j :: is, h => by
    rw [List.nodup_cons] at h
    rw [pickL_cons]
    have ih := pickL_nd hn is h.2
    cases hj : getL L j with
    | none => exact ih
    | some y =>
      show ((y :: pickL L is).map (·.1)).Nodup
      rw [List.map_cons, List.nodup_cons]
      refine ⟨fun hm => ?_, ih⟩
      obtain ⟨z, hz, hzy⟩ := List.mem_map.mp hm
      obtain ⟨j', hj', e'⟩ := pickL_mem L is z hz
      rw [getL_eq] at hj
      have e1 : (L.map (·.1))[j]? = some y.1 := by rw [List.getElem?_map, hj]; rfl
      have e2 : (L.map (·.1))[j']? = some y.1 := by rw [List.getElem?_map, e', ← hzy]; rfl
      have hlt : j < (L.map (·.1)).length := (List.getElem?_eq_some_iff.mp e1).1
      have := (List.getElem?_inj hlt hn).mp (e1.trans e2.symm)
      subst this
      exact h.1 hj'

noncomputable abbrev runL (prog : Program) (w : World) (G : Ctx) (s : Shared) (κ : K) (t : Sem Fin) (p : Pos) (L : List (Addr × Obj)) (n : Nat) (tr : List Nat) : St :=
  runX ⟨prog, w.params⟩ G s.heap.objs.size s.toks n tr ⟨κ, t, p, L, 0, 0, [], [], True⟩

section
variable {prog : Program} {w : World} {G : Ctx} {Q : PFin} {E : PErr} {s : Shared} {κ : K} {t : Sem Fin} {p : Pos}
theorem seg_any (L : List (Addr × Obj)) (n : Nat) (tr : List Nat) (hL : ∀ x ∈ L, s.heap.get? x.1 = some x.2) (hn : (L.map (·.1)).Nodup)
    (is : List Nat) (L' : List (Addr × Obj)) (m' i' : Nat) (P' : Prop)
    (e1 : (runL prog w G s κ t p L n tr).as = (runL prog w G s κ t p L n tr).bs)
    (e4 : pickL (runL prog w G s κ t p L n tr).L is = L') (e5 : (runL prog w G s κ t p L n tr).m = m') (e6 : (runL prog w G s κ t p L n tr).i = i')
    (e7 : (runL prog w G s κ t p L n tr).ps = P') (hP : P') (his : is.Nodup)
    (hk : ∀ h', HS s.heap h' (L.map (·.1)) L' m' → W (model prog w) G Q E (runL prog w G s κ t p L n tr).κ (runL prog w G s κ t p L n tr).t (runL prog w G s κ t p L n tr).p { s with heap := h', toks := s.toks + i' }) :
    W (model prog w) G Q E κ t p s := by
  have S := run_sound (prog := prog) (w := w) (G := G) (Q := Q) (E := E) s (L.map (·.1)) n tr ⟨κ, t, p, L, 0, 0, [], [], True⟩
  refine S.2 e1 (by rw [e7]; exact hP) rfl (fun h' H => ?_) s.heap (HR.start hL hn)
  rw [e6]
  refine hk h' ⟨by rw [H.size, e5], fun x hx => ?_, ?_, H.keep⟩
  · rw [← e4] at hx
    obtain ⟨j, _, hj⟩ := pickL_mem _ _ _ hx
    exact H.get x (List.mem_of_getElem? hj)
  · rw [← e4]; exact pickL_nd H.nd is his
theorem seg_fin (L : List (Addr × Obj)) (n : Nat) (tr : List Nat) (κ' : K) (t' : Sem Fin) (is : List Nat) (L' : List (Addr × Obj)) (m' i' : Nat) (P' : Prop)
    (hL : ∀ x ∈ L, s.heap.get? x.1 = some x.2) (hn : (L.map (·.1)).Nodup)
    (e1 : (runL prog w G s κ t p L n tr).as = (runL prog w G s κ t p L n tr).bs)
    (e2 : (runL prog w G s κ t p L n tr).κ = κ') (e3 : (runL prog w G s κ t p L n tr).t = t')
    (e4 : pickL (runL prog w G s κ t p L n tr).L is = L') (e5 : (runL prog w G s κ t p L n tr).m = m') (e6 : (runL prog w G s κ t p L n tr).i = i')
    (e7 : (runL prog w G s κ t p L n tr).ps = P') (hP : P') (his : is.Nodup)
    (hk : ∀ h' p', HS s.heap h' (L.map (·.1)) L' m' → W (model prog w) G Q E κ' t' p' { s with heap := h', toks := s.toks + i' }) :
    W (model prog w) G Q E κ t p s :=
  seg_any L n tr hL hn is L' m' i' P' e1 e4 e5 e6 e7 hP his fun h' H => by
    have := hk h' (runL prog w G s κ t p L n tr).p H
    rw [← e2, ← e3] at this; exact this

noncomputable def callC (t : Sem Fin) : Option (Code × Option Value) := match t with
  | .call c hd _ _ _ => some (c, hd)
  | _ => none
noncomputable def callK (t : Sem Fin) : Result → Sem Fin := match t with
  | .call _ _ _ _ k => k
  | _ => fun _ => .unsupported ""
theorem W_callC {c : Code} {hd : Option Value} (h : callC t = some (c, hd))
    (hk : wpCode (model prog w) ((ctxOf G κ).enter c hd p) (fun r s' => W (model prog w) G Q E κ (callK t r) p s') p s) : W (model prog w) G Q E κ t p s := by
  cases t <;> simp only [callC, Option.some.injEq, Prod.mk.injEq, reduceCtorEq] at h
  obtain ⟨rfl, rfl⟩ := h
  exact W_call hk

noncomputable def nobp : K → Bool
  | .base => true
  | .ret _ hd _ _ κ => match hd with
    | none => nobp κ
    | some v => match v with
      | .ref _ => nobp κ
      | _ => false
theorem noByPass_of : ∀ {κ : K}, nobp κ = true → noByPass κ
  | .base, _ => trivial
  | .ret _ none _ _ κ, h => ⟨by simp, noByPass_of (κ := κ) h⟩
  | .ret _ (some (.ref a)) _ _ κ, h => ⟨by simp [byPass], noByPass_of (κ := κ) h⟩
  | .ret _ (some .none) _ _ κ, h => by cases h
  | .ret _ (some .ellipsis) _ _ κ, h => by cases h
  | .ret _ (some .notImplemented) _ _ κ, h => by cases h
  | .ret _ (some (.bool _)) _ _ κ, h => by cases h
  | .ret _ (some (.int _ _)) _ _ κ, h => by cases h
  | .ret _ (some (.float _ _)) _ _ κ, h => by cases h
  | .ret _ (some (.str _ _)) _ _ κ, h => by cases h
  | .ret _ (some (.bytes _ _)) _ _ κ, h => by cases h
  | .ret _ (some (.type _)) _ _ κ, h => by cases h
  | .ret _ (some (.builtin _)) _ _ κ, h => by cases h

theorem seg_call {A : Around} (hIn : G.In A) (L : List (Addr × Obj)) (n : Nat) (tr : List Nat) (c' : Code) (is : List Nat) (L' : List (Addr × Obj)) (m' i' : Nat) (P' : Prop)
    (hL : ∀ x ∈ L, s.heap.get? x.1 = some x.2) (hn : (L.map (·.1)).Nodup)
    (e1 : (runL prog w G s κ t p L n tr).as = (runL prog w G s κ t p L n tr).bs)
    (e2 : nobp (runL prog w G s κ t p L n tr).κ = true) (e3 : callC (runL prog w G s κ t p L n tr).t = some (c', none))
    (e4 : pickL (runL prog w G s κ t p L n tr).L is = L') (e5 : (runL prog w G s κ t p L n tr).m = m') (e6 : (runL prog w G s κ t p L n tr).i = i')
    (e7 : (runL prog w G s κ t p L n tr).ps = P') (hP : P') (his : is.Nodup) (e8 : (ctxOf G (runL prog w G s κ t p L n tr).κ).handled = none)
    (hk : ∀ h', HS s.heap h' (L.map (·.1)) L' m' → ∀ A', A' = aroundK A (runL prog w G s κ t p L n tr).κ → A'.handled = none →
      codeAny (model prog w) A' c' (fun r s' => W (model prog w) G Q E (runL prog w G s κ t p L n tr).κ (callK (runL prog w G s κ t p L n tr).t r) (runL prog w G s κ t p L n tr).p s') { s with heap := h', toks := s.toks + i' }) :
    W (model prog w) G Q E κ t p s :=
  seg_any L n tr hL hn is L' m' i' P' e1 e4 e5 e6 e7 hP his fun h' H => by
    have hin := in_ctx' hIn _ (noByPass_of e2)
    refine W_callC e3 ?_
    have hb := hin.enter c' none (runL prog w G s κ t p L n tr).p (by simp)
    have z := hk h' H _ rfl (hin.1.symm.trans e8)
    have hm : ∀ A : Around, A.mark none = A := fun A => by cases A; rfl
    rw [hm] at hb
    exact z _ _ rfl hb

theorem enter_code {A : Around} {c : Code} {R : Result → Shared → Prop} (hh : A.handled = none)
    (h : ∀ own below past p, (⟨c, none, own, below, past⟩ : Ctx).Below A →
      W (model prog w) ⟨c, none, own, below, past⟩ (Sem.finPost (model prog w) ⟨c, none, own, below, past⟩ R) (fun e _ s' => R (.error e) s') .base (den c) p s) :
    codeAny (model prog w) A c R s := by
  rintro ⟨c', hd, own, below, past⟩ p hc hB
  have h1 : hd = none := hB.1.trans hh
  subst h1
  have h2 : c' = c := hc
  subst h2
  rw [wpCode_iff_wp]
  show Sem.wp _ _ (denote table _) _ _ _ _
  rw [den_eq]
  exact h own below past p hB
theorem base_again {A : Around} {c : Code} {R : Result → Shared → Prop} (hB : G.Below A) (hq : c.quiet = true) (h : codeAny (model prog w) A c R s) :
    W (model prog w) G (Sem.finPost (model prog w) G R) E .base (.pure (.again c)) p s := by
  show Sem.wp _ _ _ _ _ _ _
  rw [Sem.wp_pure]
  exact ⟨hq, h _ _ rfl (hB.goto c)⟩
theorem base_done {R : Result → Shared → Prop} {f : Flow} (h : R (.ok f) s) :
    W (model prog w) G (Sem.finPost (model prog w) G R) E .base (.pure (.done f)) p s := by
  show Sem.wp _ _ _ _ _ _ _
  rw [Sem.wp_pure]; exact h
theorem base_raise {e : Value} (h : E e p s) : W (model prog w) G Q E .base (.raise e) p s := by
  show Sem.wp _ _ _ _ _ _ _
  rw [Sem.wp_raise]; exact h
end

theorem pyl (x y : Int) (h : y.natAbs < 2 ^ 32) : Builtin.divisionGoesByPylong x y = false := by
  unfold Builtin.divisionGoesByPylong
  have : (if (y == 0) = true then 0 else y.natAbs.log2 / 30 + 1) ≤ 300 := by
    split
    · omega
    · rename_i hy
      have h0 : y.natAbs ≠ 0 := by
        intro e
        apply hy
        simpa using e
      have := (Nat.log2_lt h0).mpr h
      omega
  simp only [Bool.and_eq_false_iff, decide_eq_false_iff_not]
  exact .inl (by omega)
end Mine
end

section
open PySem PySem.W PySem.W.X
set_option maxRecDepth 100000
namespace Mine
abbrev prg : Program := PySem.Challenge.pw_fe0168_01
def bodyOf : Stmt → List Stmt
  | .FunctionDef _ _ b _ _ _ _ _ _ _ => b
  | _ => []
def scopeOf : Stmt → Scope
  | .FunctionDef _ _ _ _ _ _ sc _ _ _ => sc
  | _ => default
def lawS : Stmt := prg.main.body.getLastD (.Pass default)
def lawB : List Stmt := bodyOf lawS
def lawSc : Scope := scopeOf lawS
def asgVal : Stmt → Expr
  | .Assign _ v _ => v
  | _ => .Constant .none 0 default
def subVal : Expr → Expr
  | .Subscript v _ _ => v
  | e => e
def compElt : Expr → Expr
  | .ListComp e _ _ _ => e
  | .GeneratorExp e _ _ _ => e
  | e => e
def compTarget : Expr → Expr
  | .ListComp _ (c :: _) _ _ => c.target
  | .GeneratorExp _ (c :: _) _ _ => c.target
  | e => e
def compScope : Expr → Scope
  | .ListComp _ _ sc _ => sc
  | .GeneratorExp _ _ sc _ => sc
  | _ => default
def stmtAt (l : List Stmt) (i : Nat) : Stmt := l.getD i (.Pass default)
/-- the law's frame -/
def lawEnv (L ca ck cm : Addr) : Env :=
  { scope := lawSc, locals := L, globals := 3, cells := [("amount", cm), ("key", ck), ("arg", ca)], qual := "law.<locals>.", func := some 523, code := .ref 522, frame := some L, builtins := 0 }
/-- an inlined comprehension's frame -/
def inEnv (sc : Scope) (C L : Addr) (cells : List (Str × Addr)) : Env :=
  { scope := sc, locals := C, globals := 3, cells := cells, qual := "law.<locals>.", func := none, code := .ref 522, frame := some L, builtins := 0 }
def firstE : Expr := subVal (asgVal (stmtAt lawB 1))
def firstSc : Scope := compScope firstE

abbrev lstO (xs : Array Value) (n : Nat) : Obj := { cls := .type "list", data := .seq xs n }
abbrev tupO (xs : Array Value) : Obj := { cls := .type "tuple", data := .seq xs 0 }
abbrev fldO (c : String) (vs : Array Value) : Obj := { cls := .type c, data := .fields vs }
abbrev ent (P : Params) (k : Str) (t : Tok) (v : Value) : DictEntry := ⟨PyData.keyHash P k, .str k t, v⟩
abbrev dicO (es : Array DictEntry) (n : Nat) : Obj := { cls := .type "dict", data := .dict es n }
abbrev stopO (t : Addr) : Obj := fldO "StopIteration" #[.ref t, .none, .none, .none, .bool false, .none]
abbrev cellO (v : Option Value) : Obj := { cls := .type "cell", data := .cell v }
/-- bit k of an octet, the highest first -/
def bitI (o : Int) (k : Nat) : Int := Int.fmod (Int.fdiv o (2 ^ (7 - k))) 2
def rowO (b : Nat → Int) (t : Nat → Tok) (n : Nat) : Obj :=
  lstO #[.int (b 0) (t 0), .int (b 1) (t 1), .int (b 2) (t 2), .int (b 3) (t 3), .int (b 4) (t 4), .int (b 5) (t 5), .int (b 6) (t 6), .int (b 7) (t 7)] n
def RowIs (h : Heap) (r : Addr) (o : Int) : Prop := ∃ t n, h.get? r = some (rowO (bitI o) t n)
def clsBody : Stmt → List Stmt
  | .ClassDef _ _ _ b _ _ _ _ _ _ _ => b
  | _ => []
def ksB : List Stmt := clsBody (stmtAt prg.main.body 4)
def xoneS : Stmt := stmtAt ksB 40
def xmanyS : Stmt := stmtAt ksB 41
def rotS : Stmt := stmtAt ksB 42
def argsOfS : Stmt → Arguments
  | .FunctionDef _ a _ _ _ _ _ _ _ _ => a
  | _ => default
def fnO (name qual : Str) (st : Stmt) (code : Value) (an : Option Addr) (pm : Value) : Obj :=
  { cls := .type "function", data := .func { name := name, qualname := qual, params := argsOfS st, body := .stmts (bodyOf st), scope := scopeOf st, globals := 3, closure := [], defaults := .none, kwdefaults := .none, annotations := an, pyModule := pm, code := code, builtins := 0 } }
def ob324 : Obj := fnO "process_xor_one" "KaitaiStream.process_xor_one" xoneS (.ref 323) (some 327) (.str "kaitaistruct" 194)
def ob334 : Obj := fnO "process_xor_many" "KaitaiStream.process_xor_many" xmanyS (.ref 333) (some 337) (.str "kaitaistruct" 194)
def ob344 : Obj := fnO "process_rotate_left" "KaitaiStream.process_rotate_left" rotS (.ref 343) (some 347) (.str "kaitaistruct" 194)
def ob523 : Obj := fnO "law" "law" lawS (.ref 522) none (.str "law_fe0168_01" 913)
def rows0E : Expr := asgVal (stmtAt lawB 2)
def rows0Sc : Scope := compScope rows0E
/-- names of an outer block's cell become cells -/
def relab (sc : Scope) (cells : List Str) : Scope := { sc with names := sc.names.map fun (n, k) => if k == .free && cells.contains n then (n, .cell) else (n, k) }
def forBody : Stmt → List Stmt
  | .For _ _ b _ _ => b
  | _ => []
def ifThen : Stmt → List Stmt
  | .If _ b _ _ => b
  | _ => []
def ifElse : Stmt → List Stmt
  | .If _ _ b _ => b
  | _ => []
def tryBody : Stmt → List Stmt
  | .Try b _ _ _ _ => b
  | _ => []
def callArgs : Expr → List Expr
  | .Call _ a _ _ => a
  | _ => []
def retVal : Stmt → Expr
  | .Return (some v) _ => v
  | _ => .Constant .none 0 default
def dB : List Stmt := forBody (stmtAt lawB 5)
def uB : List Stmt := forBody (stmtAt lawB 6)
/-- the rows after an xor -/
def xrowsE : Expr := asgVal (stmtAt (ifThen (stmtAt dB 11)) 0)
def xrowE : Expr := compElt xrowsE
/-- the rows after a rotation -/
def rrowsE : Expr := asgVal (stmtAt (ifThen (stmtAt (ifElse (stmtAt dB 11)) 0)) 0)
/-- the told octets -/
def toldE : Expr := (callArgs (asgVal (stmtAt dB 12))).getD 0 (.Constant .none 0 default)
def toldRowE : Expr := (callArgs (compElt toldE)).getD 0 (.Constant .none 0 default)
def keyE : Expr := asgVal (stmtAt dB 2)
end Mine
end

section
open PySem
set_option maxRecDepth 100000
namespace Mine
def ob0 (P : Params) : Obj := { cls := .type "dict", dict := none, data := .dict #[ent P ⟨#[95, 95, 110, 97, 109, 101, 95, 95]⟩ 1 (.str ⟨#[98, 117, 105, 108, 116, 105, 110, 115]⟩ 160), ent P ⟨#[95, 95, 100, 111, 99, 95, 95]⟩ 2 (.builtin "builtins.__doc__:str#opaque"), ent P ⟨#[95, 95, 112, 97, 99, 107, 97, 103, 101, 95, 95]⟩ 3 (.builtin "builtins.__package__:str#opaque"), ent P ⟨#[95, 95, 108, 111, 97, 100, 101, 114, 95, 95]⟩ 4 (.builtin "builtins.__loader__:shared#opaque"), ent P ⟨#[95, 95, 115, 112, 101, 99, 95, 95]⟩ 5 (.builtin "builtins.__spec__#opaque"), ent P ⟨#[95, 95, 98, 117, 105, 108, 100, 95, 99, 108, 97, 115, 115, 95, 95]⟩ 6 (.builtin "__build_class__"), ent P ⟨#[95, 95, 105, 109, 112, 111, 114, 116, 95, 95]⟩ 7 (.builtin "__import__"), ent P ⟨#[97, 98, 115]⟩ 8 (.builtin "abs"), ent P ⟨#[97, 108, 108]⟩ 9 (.builtin "all"), ent P ⟨#[97, 110, 121]⟩ 10 (.builtin "any"), ent P ⟨#[97, 115, 99, 105, 105]⟩ 11 (.builtin "ascii"), ent P ⟨#[98, 105, 110]⟩ 12 (.builtin "bin"), ent P ⟨#[98, 114, 101, 97, 107, 112, 111, 105, 110, 116]⟩ 13 (.builtin "breakpoint"), ent P ⟨#[99, 97, 108, 108, 97, 98, 108, 101]⟩ 14 (.builtin "callable"), ent P ⟨#[99, 104, 114]⟩ 15 (.builtin "chr"), ent P ⟨#[99, 111, 109, 112, 105, 108, 101]⟩ 16 (.builtin "compile"), ent P ⟨#[100, 101, 108, 97, 116, 116, 114]⟩ 17 (.builtin "delattr"), ent P ⟨#[100, 105, 114]⟩ 18 (.builtin "dir"), ent P ⟨#[100, 105, 118, 109, 111, 100]⟩ 19 (.builtin "divmod"), ent P ⟨#[101, 118, 97, 108]⟩ 20 (.builtin "eval"), ent P ⟨#[101, 120, 101, 99]⟩ 21 (.builtin "exec"), ent P ⟨#[102, 111, 114, 109, 97, 116]⟩ 22 (.builtin "format"), ent P ⟨#[103, 101, 116, 97, 116, 116, 114]⟩ 23 (.builtin "getattr"), ent P ⟨#[103, 108, 111, 98, 97, 108, 115]⟩ 24 (.builtin "globals"), ent P ⟨#[104, 97, 115, 97, 116, 116, 114]⟩ 25 (.builtin "hasattr"), ent P ⟨#[104, 97, 115, 104]⟩ 26 (.builtin "hash"), ent P ⟨#[104, 101, 120]⟩ 27 (.builtin "hex"), ent P ⟨#[105, 100]⟩ 28 (.builtin "id"), ent P ⟨#[105, 110, 112, 117, 116]⟩ 29 (.builtin "input"), ent P ⟨#[105, 115, 105, 110, 115, 116, 97, 110, 99, 101]⟩ 30 (.builtin "isinstance"), ent P ⟨#[105, 115, 115, 117, 98, 99, 108, 97, 115, 115]⟩ 31 (.builtin "issubclass"), ent P ⟨#[105, 116, 101, 114]⟩ 32 (.builtin "iter"), ent P ⟨#[97, 105, 116, 101, 114]⟩ 33 (.builtin "aiter"), ent P ⟨#[108, 101, 110]⟩ 34 (.builtin "len"), ent P ⟨#[108, 111, 99, 97, 108, 115]⟩ 35 (.builtin "locals"), ent P ⟨#[109, 97, 120]⟩ 36 (.builtin "max"), ent P ⟨#[109, 105, 110]⟩ 37 (.builtin "min"), ent P ⟨#[110, 101, 120, 116]⟩ 38 (.builtin "next"), ent P ⟨#[97, 110, 101, 120, 116]⟩ 39 (.builtin "anext"), ent P ⟨#[111, 99, 116]⟩ 40 (.builtin "oct"), ent P ⟨#[111, 114, 100]⟩ 41 (.builtin "ord"), ent P ⟨#[112, 111, 119]⟩ 42 (.builtin "pow"), ent P ⟨#[112, 114, 105, 110, 116]⟩ 43 (.builtin "print"), ent P ⟨#[114, 101, 112, 114]⟩ 44 (.builtin "repr"), ent P ⟨#[114, 111, 117, 110, 100]⟩ 45 (.builtin "round"), ent P ⟨#[115, 101, 116, 97, 116, 116, 114]⟩ 46 (.builtin "setattr"), ent P ⟨#[115, 111, 114, 116, 101, 100]⟩ 47 (.builtin "sorted"), ent P ⟨#[115, 117, 109]⟩ 48 (.builtin "sum"), ent P ⟨#[118, 97, 114, 115]⟩ 49 (.builtin "vars"), ent P ⟨#[78, 111, 110, 101]⟩ 50 (.none), ent P ⟨#[69, 108, 108, 105, 112, 115, 105, 115]⟩ 51 (.ellipsis), ent P ⟨#[78, 111, 116, 73, 109, 112, 108, 101, 109, 101, 110, 116, 101, 100]⟩ 52 (.notImplemented), ent P ⟨#[70, 97, 108, 115, 101]⟩ 53 (.bool false), ent P ⟨#[84, 114, 117, 101]⟩ 54 (.bool true), ent P ⟨#[98, 111, 111, 108]⟩ 55 (.type "bool"), ent P ⟨#[109, 101, 109, 111, 114, 121, 118, 105, 101, 119]⟩ 56 (.type "memoryview"), ent P ⟨#[98, 121, 116, 101, 97, 114, 114, 97, 121]⟩ 57 (.type "bytearray"), ent P ⟨#[98, 121, 116, 101, 115]⟩ 58 (.type "bytes"), ent P ⟨#[99, 108, 97, 115, 115, 109, 101, 116, 104, 111, 100]⟩ 59 (.type "classmethod"), ent P ⟨#[99, 111, 109, 112, 108, 101, 120]⟩ 60 (.type "complex"), ent P ⟨#[100, 105, 99, 116]⟩ 61 (.type "dict"), ent P ⟨#[101, 110, 117, 109, 101, 114, 97, 116, 101]⟩ 62 (.type "enumerate"), ent P ⟨#[102, 105, 108, 116, 101, 114]⟩ 63 (.type "filter"), ent P ⟨#[102, 108, 111, 97, 116]⟩ 64 (.type "float"), ent P ⟨#[102, 114, 111, 122, 101, 110, 115, 101, 116]⟩ 65 (.type "frozenset"), ent P ⟨#[112, 114, 111, 112, 101, 114, 116, 121]⟩ 66 (.type "property"), ent P ⟨#[105, 110, 116]⟩ 67 (.type "int"), ent P ⟨#[108, 105, 115, 116]⟩ 68 (.type "list"), ent P ⟨#[109, 97, 112]⟩ 69 (.type "map"), ent P ⟨#[111, 98, 106, 101, 99, 116]⟩ 70 (.type "object"), ent P ⟨#[114, 97, 110, 103, 101]⟩ 71 (.type "range"), ent P ⟨#[114, 101, 118, 101, 114, 115, 101, 100]⟩ 72 (.type "reversed"), ent P ⟨#[115, 101, 116]⟩ 73 (.type "set"), ent P ⟨#[115, 108, 105, 99, 101]⟩ 74 (.type "slice"), ent P ⟨#[115, 116, 97, 116, 105, 99, 109, 101, 116, 104, 111, 100]⟩ 75 (.type "staticmethod"), ent P ⟨#[115, 116, 114]⟩ 76 (.type "str"), ent P ⟨#[115, 117, 112, 101, 114]⟩ 77 (.type "super"), ent P ⟨#[116, 117, 112, 108, 101]⟩ 78 (.type "tuple"), ent P ⟨#[116, 121, 112, 101]⟩ 79 (.type "type"), ent P ⟨#[122, 105, 112]⟩ 80 (.type "zip"), ent P ⟨#[95, 95, 100, 101, 98, 117, 103, 95, 95]⟩ 81 (.bool true), ent P ⟨#[66, 97, 115, 101, 69, 120, 99, 101, 112, 116, 105, 111, 110]⟩ 82 (.type "BaseException"), ent P ⟨#[66, 97, 115, 101, 69, 120, 99, 101, 112, 116, 105, 111, 110, 71, 114, 111, 117, 112]⟩ 83 (.type "BaseExceptionGroup"), ent P ⟨#[69, 120, 99, 101, 112, 116, 105, 111, 110]⟩ 84 (.type "Exception"), ent P ⟨#[71, 101, 110, 101, 114, 97, 116, 111, 114, 69, 120, 105, 116]⟩ 85 (.type "GeneratorExit"), ent P ⟨#[75, 101, 121, 98, 111, 97, 114, 100, 73, 110, 116, 101, 114, 114, 117, 112, 116]⟩ 86 (.type "KeyboardInterrupt"), ent P ⟨#[83, 121, 115, 116, 101, 109, 69, 120, 105, 116]⟩ 87 (.type "SystemExit"), ent P ⟨#[65, 114, 105, 116, 104, 109, 101, 116, 105, 99, 69, 114, 114, 111, 114]⟩ 88 (.type "ArithmeticError"), ent P ⟨#[65, 115, 115, 101, 114, 116, 105, 111, 110, 69, 114, 114, 111, 114]⟩ 89 (.type "AssertionError"), ent P ⟨#[65, 116, 116, 114, 105, 98, 117, 116, 101, 69, 114, 114, 111, 114]⟩ 90 (.type "AttributeError"), ent P ⟨#[66, 117, 102, 102, 101, 114, 69, 114, 114, 111, 114]⟩ 91 (.type "BufferError"), ent P ⟨#[69, 79, 70, 69, 114, 114, 111, 114]⟩ 92 (.type "EOFError"), ent P ⟨#[73, 109, 112, 111, 114, 116, 69, 114, 114, 111, 114]⟩ 93 (.type "ImportError"), ent P ⟨#[76, 111, 111, 107, 117, 112, 69, 114, 114, 111, 114]⟩ 94 (.type "LookupError"), ent P ⟨#[77, 101, 109, 111, 114, 121, 69, 114, 114, 111, 114]⟩ 95 (.type "MemoryError"), ent P ⟨#[78, 97, 109, 101, 69, 114, 114, 111, 114]⟩ 96 (.type "NameError"), ent P ⟨#[79, 83, 69, 114, 114, 111, 114]⟩ 97 (.type "OSError"), ent P ⟨#[82, 101, 102, 101, 114, 101, 110, 99, 101, 69, 114, 114, 111, 114]⟩ 98 (.type "ReferenceError"), ent P ⟨#[82, 117, 110, 116, 105, 109, 101, 69, 114, 114, 111, 114]⟩ 99 (.type "RuntimeError"), ent P ⟨#[83, 116, 111, 112, 65, 115, 121, 110, 99, 73, 116, 101, 114, 97, 116, 105, 111, 110]⟩ 100 (.type "StopAsyncIteration"), ent P ⟨#[83, 116, 111, 112, 73, 116, 101, 114, 97, 116, 105, 111, 110]⟩ 101 (.type "StopIteration"), ent P ⟨#[83, 121, 110, 116, 97, 120, 69, 114, 114, 111, 114]⟩ 102 (.type "SyntaxError"), ent P ⟨#[83, 121, 115, 116, 101, 109, 69, 114, 114, 111, 114]⟩ 103 (.type "SystemError"), ent P ⟨#[84, 121, 112, 101, 69, 114, 114, 111, 114]⟩ 104 (.type "TypeError"), ent P ⟨#[86, 97, 108, 117, 101, 69, 114, 114, 111, 114]⟩ 105 (.type "ValueError"), ent P ⟨#[87, 97, 114, 110, 105, 110, 103]⟩ 106 (.type "Warning"), ent P ⟨#[70, 108, 111, 97, 116, 105, 110, 103, 80, 111, 105, 110, 116, 69, 114, 114, 111, 114]⟩ 107 (.type "FloatingPointError"), ent P ⟨#[79, 118, 101, 114, 102, 108, 111, 119, 69, 114, 114, 111, 114]⟩ 108 (.type "OverflowError"), ent P ⟨#[90, 101, 114, 111, 68, 105, 118, 105, 115, 105, 111, 110, 69, 114, 114, 111, 114]⟩ 109 (.type "ZeroDivisionError"), ent P ⟨#[66, 121, 116, 101, 115, 87, 97, 114, 110, 105, 110, 103]⟩ 110 (.type "BytesWarning"), ent P ⟨#[68, 101, 112, 114, 101, 99, 97, 116, 105, 111, 110, 87, 97, 114, 110, 105, 110, 103]⟩ 111 (.type "DeprecationWarning"), ent P ⟨#[69, 110, 99, 111, 100, 105, 110, 103, 87, 97, 114, 110, 105, 110, 103]⟩ 112 (.type "EncodingWarning"), ent P ⟨#[70, 117, 116, 117, 114, 101, 87, 97, 114, 110, 105, 110, 103]⟩ 113 (.type "FutureWarning"), ent P ⟨#[73, 109, 112, 111, 114, 116, 87, 97, 114, 110, 105, 110, 103]⟩ 114 (.type "ImportWarning"), ent P ⟨#[80, 101, 110, 100, 105, 110, 103, 68, 101, 112, 114, 101, 99, 97, 116, 105, 111, 110, 87, 97, 114, 110, 105, 110, 103]⟩ 115 (.type "PendingDeprecationWarning"), ent P ⟨#[82, 101, 115, 111, 117, 114, 99, 101, 87, 97, 114, 110, 105, 110, 103]⟩ 116 (.type "ResourceWarning"), ent P ⟨#[82, 117, 110, 116, 105, 109, 101, 87, 97, 114, 110, 105, 110, 103]⟩ 117 (.type "RuntimeWarning"), ent P ⟨#[83, 121, 110, 116, 97, 120, 87, 97, 114, 110, 105, 110, 103]⟩ 118 (.type "SyntaxWarning"), ent P ⟨#[85, 110, 105, 99, 111, 100, 101, 87, 97, 114, 110, 105, 110, 103]⟩ 119 (.type "UnicodeWarning"), ent P ⟨#[85, 115, 101, 114, 87, 97, 114, 110, 105, 110, 103]⟩ 120 (.type "UserWarning"), ent P ⟨#[66, 108, 111, 99, 107, 105, 110, 103, 73, 79, 69, 114, 114, 111, 114]⟩ 121 (.type "BlockingIOError"), ent P ⟨#[67, 104, 105, 108, 100, 80, 114, 111, 99, 101, 115, 115, 69, 114, 114, 111, 114]⟩ 122 (.type "ChildProcessError"), ent P ⟨#[67, 111, 110, 110, 101, 99, 116, 105, 111, 110, 69, 114, 114, 111, 114]⟩ 123 (.type "ConnectionError"), ent P ⟨#[70, 105, 108, 101, 69, 120, 105, 115, 116, 115, 69, 114, 114, 111, 114]⟩ 124 (.type "FileExistsError"), ent P ⟨#[70, 105, 108, 101, 78, 111, 116, 70, 111, 117, 110, 100, 69, 114, 114, 111, 114]⟩ 125 (.type "FileNotFoundError"), ent P ⟨#[73, 110, 116, 101, 114, 114, 117, 112, 116, 101, 100, 69, 114, 114, 111, 114]⟩ 126 (.type "InterruptedError"), ent P ⟨#[73, 115, 65, 68, 105, 114, 101, 99, 116, 111, 114, 121, 69, 114, 114, 111, 114]⟩ 127 (.type "IsADirectoryError"), ent P ⟨#[78, 111, 116, 65, 68, 105, 114, 101, 99, 116, 111, 114, 121, 69, 114, 114, 111, 114]⟩ 128 (.type "NotADirectoryError"), ent P ⟨#[80, 101, 114, 109, 105, 115, 115, 105, 111, 110, 69, 114, 114, 111, 114]⟩ 129 (.type "PermissionError"), ent P ⟨#[80, 114, 111, 99, 101, 115, 115, 76, 111, 111, 107, 117, 112, 69, 114, 114, 111, 114]⟩ 130 (.type "ProcessLookupError"), ent P ⟨#[84, 105, 109, 101, 111, 117, 116, 69, 114, 114, 111, 114]⟩ 131 (.type "TimeoutError"), ent P ⟨#[73, 110, 100, 101, 110, 116, 97, 116, 105, 111, 110, 69, 114, 114, 111, 114]⟩ 132 (.type "IndentationError"), ent P ⟨#[95, 73, 110, 99, 111, 109, 112, 108, 101, 116, 101, 73, 110, 112, 117, 116, 69, 114, 114, 111, 114]⟩ 133 (.type "_IncompleteInputError"), ent P ⟨#[73, 110, 100, 101, 120, 69, 114, 114, 111, 114]⟩ 134 (.type "IndexError"), ent P ⟨#[75, 101, 121, 69, 114, 114, 111, 114]⟩ 135 (.type "KeyError"), ent P ⟨#[77, 111, 100, 117, 108, 101, 78, 111, 116, 70, 111, 117, 110, 100, 69, 114, 114, 111, 114]⟩ 136 (.type "ModuleNotFoundError"), ent P ⟨#[78, 111, 116, 73, 109, 112, 108, 101, 109, 101, 110, 116, 101, 100, 69, 114, 114, 111, 114]⟩ 137 (.type "NotImplementedError"), ent P ⟨#[80, 121, 116, 104, 111, 110, 70, 105, 110, 97, 108, 105, 122, 97, 116, 105, 111, 110, 69, 114, 114, 111, 114]⟩ 138 (.type "PythonFinalizationError"), ent P ⟨#[82, 101, 99, 117, 114, 115, 105, 111, 110, 69, 114, 114, 111, 114]⟩ 139 (.type "RecursionError"), ent P ⟨#[85, 110, 98, 111, 117, 110, 100, 76, 111, 99, 97, 108, 69, 114, 114, 111, 114]⟩ 140 (.type "UnboundLocalError"), ent P ⟨#[85, 110, 105, 99, 111, 100, 101, 69, 114, 114, 111, 114]⟩ 141 (.type "UnicodeError"), ent P ⟨#[66, 114, 111, 107, 101, 110, 80, 105, 112, 101, 69, 114, 114, 111, 114]⟩ 142 (.type "BrokenPipeError"), ent P ⟨#[67, 111, 110, 110, 101, 99, 116, 105, 111, 110, 65, 98, 111, 114, 116, 101, 100, 69, 114, 114, 111, 114]⟩ 143 (.type "ConnectionAbortedError"), ent P ⟨#[67, 111, 110, 110, 101, 99, 116, 105, 111, 110, 82, 101, 102, 117, 115, 101, 100, 69, 114, 114, 111, 114]⟩ 144 (.type "ConnectionRefusedError"), ent P ⟨#[67, 111, 110, 110, 101, 99, 116, 105, 111, 110, 82, 101, 115, 101, 116, 69, 114, 114, 111, 114]⟩ 145 (.type "ConnectionResetError"), ent P ⟨#[84, 97, 98, 69, 114, 114, 111, 114]⟩ 146 (.type "TabError"), ent P ⟨#[85, 110, 105, 99, 111, 100, 101, 68, 101, 99, 111, 100, 101, 69, 114, 114, 111, 114]⟩ 147 (.type "UnicodeDecodeError"), ent P ⟨#[85, 110, 105, 99, 111, 100, 101, 69, 110, 99, 111, 100, 101, 69, 114, 114, 111, 114]⟩ 148 (.type "UnicodeEncodeError"), ent P ⟨#[85, 110, 105, 99, 111, 100, 101, 84, 114, 97, 110, 115, 108, 97, 116, 101, 69, 114, 114, 111, 114]⟩ 149 (.type "UnicodeTranslateError"), ent P ⟨#[69, 120, 99, 101, 112, 116, 105, 111, 110, 71, 114, 111, 117, 112]⟩ 150 (.type "ExceptionGroup"), ent P ⟨#[69, 110, 118, 105, 114, 111, 110, 109, 101, 110, 116, 69, 114, 114, 111, 114]⟩ 151 (.type "OSError"), ent P ⟨#[73, 79, 69, 114, 114, 111, 114]⟩ 152 (.type "OSError"), ent P ⟨#[111, 112, 101, 110]⟩ 153 (.builtin "open"), ent P ⟨#[113, 117, 105, 116]⟩ 154 (.builtin "builtins.quit#opaque"), ent P ⟨#[101, 120, 105, 116]⟩ 155 (.builtin "builtins.exit#opaque"), ent P ⟨#[99, 111, 112, 121, 114, 105, 103, 104, 116]⟩ 156 (.builtin "builtins.copyright#opaque"), ent P ⟨#[99, 114, 101, 100, 105, 116, 115]⟩ 157 (.builtin "builtins.credits#opaque"), ent P ⟨#[108, 105, 99, 101, 110, 115, 101]⟩ 158 (.builtin "builtins.license#opaque"), ent P ⟨#[104, 101, 108, 112]⟩ 159 (.builtin "builtins.help#opaque")] 159, slots := #[] }
def ob2 (P : Params) : Obj := { cls := .none, dict := none, data := .dict #[ent P ⟨#[116, 121, 112, 101, 46, 95, 95, 115, 117, 98, 99, 108, 97, 115, 115, 101, 115, 95, 95, 46, 69, 120, 99, 101, 112, 116, 105, 111, 110, 46, 48]⟩ 851 (.int 472 0), ent P ⟨#[116, 121, 112, 101, 46, 95, 95, 115, 117, 98, 99, 108, 97, 115, 115, 101, 115, 95, 95, 46, 69, 120, 99, 101, 112, 116, 105, 111, 110, 46, 110]⟩ 852 (.int 1 0), ent P ⟨#[116, 121, 112, 101, 46, 95, 95, 115, 117, 98, 99, 108, 97, 115, 115, 101, 115, 95, 95, 46, 69, 79, 70, 69, 114, 114, 111, 114, 46, 48]⟩ 909 (.int 515 0), ent P ⟨#[116, 121, 112, 101, 46, 95, 95, 115, 117, 98, 99, 108, 97, 115, 115, 101, 115, 95, 95, 46, 69, 79, 70, 69, 114, 114, 111, 114, 46, 110]⟩ 910 (.int 1 0)] 4, slots := #[] }
def ob3 (P : Params) : Obj := { cls := .type "dict", dict := none, data := .dict #[ent P ⟨#[95, 95, 110, 97, 109, 101, 95, 95]⟩ 165 (.str ⟨#[108, 97, 119, 95, 102, 101, 48, 49, 54, 56, 95, 48, 49]⟩ 913), ent P ⟨#[95, 95, 100, 111, 99, 95, 95]⟩ 166 (.none), ent P ⟨#[95, 95, 112, 97, 99, 107, 97, 103, 101, 95, 95]⟩ 167 (.none), ent P ⟨#[95, 95, 108, 111, 97, 100, 101, 114, 95, 95]⟩ 168 (.builtin "__main__.__loader__#opaque"), ent P ⟨#[95, 95, 115, 112, 101, 99, 95, 95]⟩ 169 (.none), ent P ⟨#[95, 95, 97, 110, 110, 111, 116, 97, 116, 105, 111, 110, 115, 95, 95]⟩ 170 (.ref 6), ent P ⟨#[95, 95, 98, 117, 105, 108, 116, 105, 110, 115, 95, 95]⟩ 171 (.ref 4), ent P ⟨#[95, 95, 102, 105, 108, 101, 95, 95]⟩ 173 (.str ⟨#[47, 99, 108, 97, 105, 109, 47, 99, 117, 116, 46, 112, 121]⟩ 172), ent P ⟨#[95, 95, 99, 97, 99, 104, 101, 100, 95, 95]⟩ 174 (.none), ent P ⟨#[95, 119, 97, 108, 108]⟩ 193 (.ref 21), ent P ⟨#[83, 69, 69, 75, 95, 69, 78, 68]⟩ 197 (.int 2 196), ent P ⟨#[80, 89, 50]⟩ 198 (.bool false), ent P ⟨#[75, 97, 105, 116, 97, 105, 83, 116, 114, 101, 97, 109]⟩ 822 (.ref 449), ent P ⟨#[75, 97, 105, 116, 97, 105, 83, 116, 114, 117, 99, 116, 69, 114, 114, 111, 114]⟩ 854 (.ref 472), ent P ⟨#[73, 110, 118, 97, 108, 105, 100, 65, 114, 103, 117, 109, 101, 110, 116, 69, 114, 114, 111, 114]⟩ 880 (.ref 494), ent P ⟨#[69, 110, 100, 79, 102, 83, 116, 114, 101, 97, 109, 69, 114, 114, 111, 114]⟩ 912 (.ref 515), ent P ⟨#[95, 108, 97, 119, 95, 77, 79, 82, 69]⟩ 919 (.ref 518), ent P ⟨#[108, 97, 119]⟩ 925 (.ref 523)] 18, slots := #[] }
def ob4 (P : Params) : Obj := { cls := .type "module", dict := (some 0), data := .plain, slots := #[] }
def ob319 (P : Params) : Obj := { cls := .none, dict := none, data := .fields #[], slots := #[] }
def ob323 (P : Params) : Obj := { cls := .type "code", dict := none, data := .fields #[.str ⟨#[112, 114, 111, 99, 101, 115, 115, 95, 120, 111, 114, 95, 111, 110, 101]⟩ 574, .str ⟨#[75, 97, 105, 116, 97, 105, 83, 116, 114, 101, 97, 109, 46, 112, 114, 111, 99, 101, 115, 115, 95, 120, 111, 114, 95, 111, 110, 101]⟩ 575, .str ⟨#[47, 99, 108, 97, 105, 109, 47, 99, 117, 116, 46, 112, 121]⟩ 576, .int 173 0, .int 2 0, .int 0 0, .int 0 0, .int 3 0, .ref 318, .bool true, .int 181 0, .ref 319, .none, .ref 320, .ref 321, .ref 322, .int 580 0, .int 173 0, .str ⟨#[47, 99, 108, 97, 105, 109, 47, 99, 117, 116, 46, 112, 121]⟩ 581], slots := #[] }
def ob326 (P : Params) : Obj := { cls := .type "staticmethod", dict := (some 325), data := .fields #[.ref 324, .bool false], slots := #[] }
def ob329 (P : Params) : Obj := { cls := .none, dict := none, data := .fields #[], slots := #[] }
def ob333 (P : Params) : Obj := { cls := .type "code", dict := none, data := .fields #[.str ⟨#[112, 114, 111, 99, 101, 115, 115, 95, 120, 111, 114, 95, 109, 97, 110, 121]⟩ 595, .str ⟨#[75, 97, 105, 116, 97, 105, 83, 116, 114, 101, 97, 109, 46, 112, 114, 111, 99, 101, 115, 115, 95, 120, 111, 114, 95, 109, 97, 110, 121]⟩ 596, .str ⟨#[47, 99, 108, 97, 105, 109, 47, 99, 117, 116, 46, 112, 121]⟩ 597, .int 179 0, .int 2 0, .int 0 0, .int 0 0, .int 3 0, .ref 328, .bool true, .int 181 0, .ref 329, .none, .ref 330, .ref 331, .ref 332, .int 600 0, .int 179 0, .str ⟨#[47, 99, 108, 97, 105, 109, 47, 99, 117, 116, 46, 112, 121]⟩ 601], slots := #[] }
def ob336 (P : Params) : Obj := { cls := .type "staticmethod", dict := (some 335), data := .fields #[.ref 334, .bool false], slots := #[] }
def ob343 (P : Params) : Obj := { cls := .type "code", dict := none, data := .fields #[.str ⟨#[112, 114, 111, 99, 101, 115, 115, 95, 114, 111, 116, 97, 116, 101, 95, 108, 101, 102, 116]⟩ 615, .str ⟨#[75, 97, 105, 116, 97, 105, 83, 116, 114, 101, 97, 109, 46, 112, 114, 111, 99, 101, 115, 115, 95, 114, 111, 116, 97, 116, 101, 95, 108, 101, 102, 116]⟩ 616, .str ⟨#[47, 99, 108, 97, 105, 109, 47, 99, 117, 116, 46, 112, 121]⟩ 617, .int 183 0, .int 3 0, .int 0 0, .int 0 0, .int 3 0, .ref 338, .bool true, .int 181 0, .ref 339, .none, .ref 340, .ref 341, .ref 342, .int 625 0, .int 183 0, .str ⟨#[47, 99, 108, 97, 105, 109, 47, 99, 117, 116, 46, 112, 121]⟩ 626], slots := #[] }
def ob346 (P : Params) : Obj := { cls := .type "staticmethod", dict := (some 345), data := .fields #[.ref 344, .bool false], slots := #[] }
def ob448 (P : Params) : Obj := { cls := .type "dict", dict := none, data := .dict #[ent P ⟨#[95, 95, 109, 111, 100, 117, 108, 101, 95, 95]⟩ 206 (.str ⟨#[107, 97, 105, 116, 97, 105, 115, 116, 114, 117, 99, 116]⟩ 194), ent P ⟨#[95, 95, 102, 105, 114, 115, 116, 108, 105, 110, 101, 110, 111, 95, 95]⟩ 210 (.int 7 209), ent P ⟨#[95, 95, 105, 110, 105, 116, 95, 95]⟩ 218 (.ref 35), ent P ⟨#[99, 108, 111, 115, 101]⟩ 225 (.ref 42), ent P ⟨#[105, 115, 95, 101, 111, 102]⟩ 232 (.ref 49), ent P ⟨#[115, 101, 101, 107]⟩ 240 (.ref 56), ent P ⟨#[112, 111, 115]⟩ 247 (.ref 63), ent P ⟨#[115, 105, 122, 101]⟩ 257 (.ref 70), ent P ⟨#[114, 101, 97, 100, 95, 115, 49]⟩ 264 (.ref 77), ent P ⟨#[114, 101, 97, 100, 95, 115, 52, 98, 101]⟩ 271 (.ref 84), ent P ⟨#[114, 101, 97, 100, 95, 115, 50, 108, 101]⟩ 278 (.ref 91), ent P ⟨#[114, 101, 97, 100, 95, 117, 49]⟩ 285 (.ref 98), ent P ⟨#[114, 101, 97, 100, 95, 117, 50, 98, 101]⟩ 292 (.ref 105), ent P ⟨#[114, 101, 97, 100, 95, 117, 56, 98, 101]⟩ 299 (.ref 112), ent P ⟨#[114, 101, 97, 100, 95, 117, 52, 108, 101]⟩ 306 (.ref 119), ent P ⟨#[97, 108, 105, 103, 110, 95, 116, 111, 95, 98, 121, 116, 101]⟩ 313 (.ref 126), ent P ⟨#[114, 101, 97, 100, 95, 98, 105, 116, 115, 95, 105, 110, 116, 95, 98, 101]⟩ 321 (.ref 133), ent P ⟨#[114, 101, 97, 100, 95, 98, 105, 116, 115, 95, 105, 110, 116]⟩ 329 (.ref 140), ent P ⟨#[114, 101, 97, 100, 95, 98, 105, 116, 115, 95, 105, 110, 116, 95, 108, 101]⟩ 337 (.ref 147), ent P ⟨#[114, 101, 97, 100, 95, 98, 121, 116, 101, 115]⟩ 345 (.ref 154), ent P ⟨#[95, 114, 101, 97, 100, 95, 98, 121, 116, 101, 115, 95, 110, 111, 116, 95, 97, 108, 105, 103, 110, 101, 100]⟩ 353 (.ref 161), ent P ⟨#[114, 101, 97, 100, 95, 98, 121, 116, 101, 115, 95, 102, 117, 108, 108]⟩ 360 (.ref 168), ent P ⟨#[114, 101, 97, 100, 95, 98, 121, 116, 101, 115, 95, 116, 101, 114, 109]⟩ 371 (.ref 175), ent P ⟨#[114, 101, 97, 100, 95, 98, 121, 116, 101, 115, 95, 116, 101, 114, 109, 95, 109, 117, 108, 116, 105]⟩ 382 (.ref 182), ent P ⟨#[101, 110, 115, 117, 114, 101, 95, 102, 105, 120, 101, 100, 95, 99, 111, 110, 116, 101, 110, 116, 115]⟩ 390 (.ref 189), ent P ⟨#[98, 121, 116, 101, 115, 95, 115, 116, 114, 105, 112, 95, 114, 105, 103, 104, 116]⟩ 410 (.ref 198), ent P ⟨#[98, 121, 116, 101, 115, 95, 116, 101, 114, 109, 105, 110, 97, 116, 101]⟩ 431 (.ref 208), ent P ⟨#[98, 121, 116, 101, 115, 95, 116, 101, 114, 109, 105, 110, 97, 116, 101, 95, 109, 117, 108, 116, 105]⟩ 452 (.ref 218), ent P ⟨#[95, 101, 110, 115, 117, 114, 101, 95, 98, 121, 116, 101, 115, 95, 108, 101, 102, 116, 95, 116, 111, 95, 119, 114, 105, 116, 101]⟩ 463 (.ref 226), ent P ⟨#[119, 114, 105, 116, 101, 95, 115, 49]⟩ 471 (.ref 233), ent P ⟨#[119, 114, 105, 116, 101, 95, 115, 52, 98, 101]⟩ 479 (.ref 240), ent P ⟨#[119, 114, 105, 116, 101, 95, 115, 50, 108, 101]⟩ 487 (.ref 247), ent P ⟨#[119, 114, 105, 116, 101, 95, 117, 49]⟩ 495 (.ref 254), ent P ⟨#[119, 114, 105, 116, 101, 95, 117, 50, 98, 101]⟩ 503 (.ref 261), ent P ⟨#[119, 114, 105, 116, 101, 95, 117, 56, 98, 101]⟩ 511 (.ref 268), ent P ⟨#[119, 114, 105, 116, 101, 95, 117, 52, 108, 101]⟩ 519 (.ref 275), ent P ⟨#[119, 114, 105, 116, 101, 95, 97, 108, 105, 103, 110, 95, 116, 111, 95, 98, 121, 116, 101]⟩ 527 (.ref 282), ent P ⟨#[119, 114, 105, 116, 101, 95, 98, 105, 116, 115, 95, 105, 110, 116, 95, 98, 101]⟩ 536 (.ref 289), ent P ⟨#[119, 114, 105, 116, 101, 95, 98, 105, 116, 115, 95, 105, 110, 116, 95, 108, 101]⟩ 545 (.ref 296), ent P ⟨#[119, 114, 105, 116, 101, 95, 98, 121, 116, 101, 115]⟩ 553 (.ref 303), ent P ⟨#[95, 119, 114, 105, 116, 101, 95, 98, 121, 116, 101, 115, 95, 110, 111, 116, 95, 97, 108, 105, 103, 110, 101, 100]⟩ 562 (.ref 310), ent P ⟨#[119, 114, 105, 116, 101, 95, 98, 121, 116, 101, 115, 95, 108, 105, 109, 105, 116]⟩ 573 (.ref 317), ent P ⟨#[112, 114, 111, 99, 101, 115, 115, 95, 120, 111, 114, 95, 111, 110, 101]⟩ 594 (.ref 326), ent P ⟨#[112, 114, 111, 99, 101, 115, 115, 95, 120, 111, 114, 95, 109, 97, 110, 121]⟩ 614 (.ref 336), ent P ⟨#[112, 114, 111, 99, 101, 115, 115, 95, 114, 111, 116, 97, 116, 101, 95, 108, 101, 102, 116]⟩ 639 (.ref 346), ent P ⟨#[105, 110, 116, 95, 102, 114, 111, 109, 95, 98, 121, 116, 101]⟩ 658 (.ref 356), ent P ⟨#[98, 121, 116, 101, 95, 102, 114, 111, 109, 95, 105, 110, 116]⟩ 677 (.ref 366), ent P ⟨#[98, 121, 116, 101, 95, 97, 114, 114, 97, 121, 95, 105, 110, 100, 101, 120]⟩ 697 (.ref 376), ent P ⟨#[98, 121, 116, 101, 95, 97, 114, 114, 97, 121, 95, 109, 105, 110]⟩ 716 (.ref 386), ent P ⟨#[98, 121, 116, 101, 95, 97, 114, 114, 97, 121, 95, 109, 97, 120]⟩ 735 (.ref 396), ent P ⟨#[98, 121, 116, 101, 95, 97, 114, 114, 97, 121, 95, 105, 110, 100, 101, 120, 95, 111, 102]⟩ 755 (.ref 406), ent P ⟨#[114, 101, 115, 111, 108, 118, 101, 95, 101, 110, 117, 109]⟩ 775 (.ref 416), ent P ⟨#[116, 111, 95, 98, 121, 116, 101, 95, 97, 114, 114, 97, 121]⟩ 782 (.ref 424), ent P ⟨#[97, 100, 100, 95, 99, 104, 105, 108, 100, 95, 115, 116, 114, 101, 97, 109]⟩ 790 (.ref 431), ent P ⟨#[119, 114, 105, 116, 101, 95, 98, 97, 99, 107, 95, 99, 104, 105, 108, 100, 95, 115, 116, 114, 101, 97, 109, 115]⟩ 798 (.ref 439), ent P ⟨#[95, 119, 114, 105, 116, 101, 95, 98, 97, 99, 107]⟩ 806 (.ref 446), ent P ⟨#[95, 95, 115, 116, 97, 116, 105, 99, 95, 97, 116, 116, 114, 105, 98, 117, 116, 101, 115, 95, 95]⟩ 815 (.ref 447), ent P ⟨#[95, 95, 100, 105, 99, 116, 95, 95]⟩ 817 (.ref 450), ent P ⟨#[95, 95, 119, 101, 97, 107, 114, 101, 102, 95, 95]⟩ 819 (.ref 451), ent P ⟨#[95, 95, 100, 111, 99, 95, 95]⟩ 820 (.none)] 4, slots := #[] }
def ob449 (P : Params) : Obj := { cls := .type "type", dict := none, data := .cls { name := ⟨#[75, 97, 105, 116, 97, 105, 83, 116, 114, 101, 97, 109]⟩, bases := [.type "object"], mro := [.ref 449, .type "object"], ns := 448, qualname := ⟨#[75, 97, 105, 116, 97, 105, 83, 116, 114, 101, 97, 109]⟩, hasDict := true, slotNames := [], subclasses := [], abstract := false, collection := none, hasDel := false }, slots := #[some (.ref 22), none, some (.str ⟨#[75, 97, 105, 116, 97, 105, 83, 116, 114, 101, 97, 109]⟩ 199), some (.str ⟨#[75, 97, 105, 116, 97, 105, 83, 116, 114, 101, 97, 109]⟩ 207), some (.builtin "object.__new__"), some (.bool true)] }
def ob518 (P : Params) : Obj := { cls := .type "tuple", dict := none, data := .seq #[.int 6 915, .int 93 916, .int 91 917, .int 308 918] 0, slots := #[] }
def ob522 (P : Params) : Obj := { cls := .type "code", dict := none, data := .fields #[.str ⟨#[108, 97, 119]⟩ 920, .str ⟨#[108, 97, 119]⟩ 921, .str ⟨#[47, 99, 108, 97, 105, 109, 47, 99, 117, 116, 46, 112, 121]⟩ 922, .int 249 0, .int 1 0, .int 0 0, .int 0 0, .int 3 0, .ref 519, .bool true, .int 181 0, .ref 520, .none, .none, .none, .ref 521, .int 923 0, .int 249 0, .str ⟨#[47, 99, 108, 97, 105, 109, 47, 99, 117, 116, 46, 112, 121]⟩ 924], slots := #[] }
end Mine
end

section
open PySem PySem.W PySem.W.X PySem.Builtin
set_option maxRecDepth 100000
namespace Mine
section
variable {prog : Program} {w : World} {A : Around} {s : Shared} {R : Result → Shared → Prop}
theorem enter_any {t : Sem Fin} {Q : Fin → Shared → Prop} {E : Value → Shared → Prop} (hh : A.handled = none)
    (h : ∀ c own below past p, (⟨c, none, own, below, past⟩ : Ctx).In A →
      W (model prog w) ⟨c, none, own, below, past⟩ (fun a _ s' => Q a s') (fun e _ s' => E e s') .base t p s) : wpAny (model prog w) A t Q E s := by
  rintro ⟨c, hd, own, below, past⟩ p hI
  have h1 : hd = none := hI.1.trans hh
  subst h1
  exact h c own below past p hI
theorem base_done' {G : Ctx} {Q : Fin → Shared → Prop} {E : PErr} {p : Pos} {a : Fin} (h : Q a s) : W (model prog w) G (fun a _ s' => Q a s') E .base (.pure a) p s := by
  show Sem.wp _ _ _ _ _ _ _
  rw [Sem.wp_pure]; exact h

noncomputable abbrev resX (X : St) (is : List Nat) : K × Sem Fin × List (Addr × Obj) × Nat × Nat × Prop × List Addr := (X.κ, X.t, pickL X.L is, X.m, X.i, X.ps, X.as)
theorem go_fin {G : Ctx} {Q : PFin} {E : PErr} {κ : K} {t : Sem Fin} {p : Pos} (L : List (Addr × Obj)) (n : Nat) (tr : List Nat) (t' : Sem Fin) (is : List Nat) (L' : List (Addr × Obj)) (m' i' : Nat) (P' : Prop)
    (hL : ∀ x ∈ L, s.heap.get? x.1 = some x.2) (hn : (L.map (·.1)).Nodup)
    (e : resX (runL prog w G s κ t p L n tr) is = (.base, t', L', m', i', P', (runL prog w G s κ t p L n tr).bs)) (hP : P') (his : is.Nodup)
    (hk : ∀ h' p', HS s.heap h' (L.map (·.1)) L' m' → W (model prog w) G Q E .base t' p' { s with heap := h', toks := s.toks + i' }) : W (model prog w) G Q E κ t p s := by
  simp only [resX, Prod.mk.injEq] at e
  obtain ⟨e2, e3, e4, e5, e6, e7, e1⟩ := e
  exact seg_fin L n tr .base t' is L' m' i' P' hL hn e1 e2 e3 e4 e5 e6 e7 hP his hk
noncomputable abbrev resC (G : Ctx) (X : St) (is : List Nat) : Bool × Option (Code × Option Value) × Option Value × List (Addr × Obj) × Nat × Nat × Prop × List Addr :=
  (nobp X.κ, callC X.t, (ctxOf G X.κ).handled, pickL X.L is, X.m, X.i, X.ps, X.as)
theorem go_call {G : Ctx} {Q : PFin} {E : PErr} {κ : K} {t : Sem Fin} {p : Pos} {A : Around} (hIn : G.In A) (L : List (Addr × Obj)) (n : Nat) (tr : List Nat) (c' : Code) (is : List Nat) (L' : List (Addr × Obj)) (m' i' : Nat) (P' : Prop)
    (hL : ∀ x ∈ L, s.heap.get? x.1 = some x.2) (hn : (L.map (·.1)).Nodup)
    (e : resC G (runL prog w G s κ t p L n tr) is = (true, some (c', none), none, L', m', i', P', (runL prog w G s κ t p L n tr).bs)) (hP : P') (his : is.Nodup)
    (hk : ∀ h', HS s.heap h' (L.map (·.1)) L' m' → ∀ A', A' = aroundK A (runL prog w G s κ t p L n tr).κ → A'.handled = none →
      codeAny (model prog w) A' c' (fun r s' => W (model prog w) G Q E (runL prog w G s κ t p L n tr).κ (callK (runL prog w G s κ t p L n tr).t r) (runL prog w G s κ t p L n tr).p s') { s with heap := h', toks := s.toks + i' }) :
    W (model prog w) G Q E κ t p s := by
  simp only [resC, Prod.mk.injEq] at e
  obtain ⟨e2, e3, e8, e4, e5, e6, e7, e1⟩ := e
  exact seg_call hIn L n tr c' is L' m' i' P' hL hn e1 e2 e3 e4 e5 e6 e7 hP his e8 hk
noncomputable def agC (t : Sem Fin) : Option Code := match t with
  | .pure (.again c) => some c
  | _ => none
noncomputable def kRet (κ : K) : Bool := match κ with
  | .ret _ none _ _ _ => true
  | _ => false
noncomputable def kTop (κ : K) : Result → Sem Fin := match κ with
  | .ret _ _ k _ _ => k
  | .base => fun _ => .unsupported ""
noncomputable def kTail (κ : K) : K := match κ with
  | .ret _ _ _ _ κ' => κ'
  | .base => .base
noncomputable def kPos (κ : K) : Pos := match κ with
  | .ret _ _ _ p _ => p
  | .base => default
theorem W_agC {A : Around} {G : Ctx} {Q : PFin} {E : PErr} {κ : K} {t : Sem Fin} {p : Pos} {c' : Code} (hIn : G.In A) (h : agC t = some c') (hr : kRet κ = true) (hb : nobp κ = true) (hh : (ctxOf G (kTail κ)).handled = none) (hq : c'.quiet = true)
    (hk : ∀ A', A' = aroundK A (kTail κ) → A'.handled = none → codeAny (model prog w) A' c' (fun r s' => W (model prog w) G Q E (kTail κ) (kTop κ r) (kPos κ) s') s) : W (model prog w) G Q E κ t p s := by
  cases t <;> simp only [agC, reduceCtorEq] at h
  rename_i fin
  cases fin <;> simp only [Option.some.injEq, reduceCtorEq] at h
  subst h
  cases κ with
  | base => cases hr
  | ret c hd k p' κ =>
    cases hd with
    | some v => cases hr
    | none =>
      have hin := in_ctx' hIn κ (noByPass_of (κ := κ) hb)
      have hb := hin.enter c none p' (by simp)
      have z := hk _ rfl (hin.1.symm.trans hh)
      have hm : ∀ A : Around, A.mark none = A := fun A => by cases A; rfl
      rw [hm] at hb
      show Sem.wp _ _ _ _ _ _ _
      rw [Sem.wp_pure]
      exact ⟨hq, z _ _ rfl (hb.goto _)⟩
noncomputable abbrev resA (G : Ctx) (X : St) (is : List Nat) : Bool × Bool × Option Code × Option Value × List (Addr × Obj) × Nat × Nat × Prop × List Addr :=
  (nobp X.κ, kRet X.κ, agC X.t, (ctxOf G (kTail X.κ)).handled, pickL X.L is, X.m, X.i, X.ps, X.as)
theorem go_again {G : Ctx} {Q : PFin} {E : PErr} {κ : K} {t : Sem Fin} {p : Pos} {A : Around} (hIn : G.In A) (L : List (Addr × Obj)) (n : Nat) (tr : List Nat) (c' : Code) (is : List Nat) (L' : List (Addr × Obj)) (m' i' : Nat) (P' : Prop)
    (hL : ∀ x ∈ L, s.heap.get? x.1 = some x.2) (hn : (L.map (·.1)).Nodup)
    (e : resA G (runL prog w G s κ t p L n tr) is = (true, true, some c', none, L', m', i', P', (runL prog w G s κ t p L n tr).bs)) (hP : P') (his : is.Nodup) (hq : c'.quiet = true)
    (hk : ∀ h', HS s.heap h' (L.map (·.1)) L' m' → ∀ A', A' = aroundK A (kTail (runL prog w G s κ t p L n tr).κ) → A'.handled = none →
      codeAny (model prog w) A' c' (fun r s' => W (model prog w) G Q E (kTail (runL prog w G s κ t p L n tr).κ) (kTop (runL prog w G s κ t p L n tr).κ r) (kPos (runL prog w G s κ t p L n tr).κ) s') { s with heap := h', toks := s.toks + i' }) :
    W (model prog w) G Q E κ t p s := by
  simp only [resA, Prod.mk.injEq] at e
  obtain ⟨e2, e3, e8, e9, e4, e5, e6, e7, e1⟩ := e
  exact seg_any L n tr hL hn is L' m' i' P' e1 e4 e5 e6 e7 hP his fun h' H => W_agC hIn e8 e3 e2 e9 hq (hk h' H)
theorem go_callV {G : Ctx} {Q : PFin} {E : PErr} {κ : K} {t : Sem Fin} {p : Pos} {A : Around} (hIn : G.In A) (L : List (Addr × Obj)) (n : Nat) (tr : List Nat) (f : Value) (args : List Value) (is : List Nat) (L' : List (Addr × Obj)) (m' i' : Nat) (P' : Prop)
    (hL : ∀ x ∈ L, s.heap.get? x.1 = some x.2) (hn : (L.map (·.1)).Nodup)
    (e : resC G (runL prog w G s κ t p L n tr) is = (true, some (.call f ⟨args, []⟩, none), none, L', m', i', P', (runL prog w G s κ t p L n tr).bs)) (hP : P') (his : is.Nodup)
    (hk : ∀ h', HS s.heap h' (L.map (·.1)) L' m' → ∀ A', A' = aroundK A (runL prog w G s κ t p L n tr).κ → A'.handled = none →
      wpAny (model prog w) A' (call f args []) (fun v s' => W (model prog w) G Q E (runL prog w G s κ t p L n tr).κ (callK (runL prog w G s κ t p L n tr).t (.ok (.ret v))) (runL prog w G s κ t p L n tr).p s')
        (fun er s' => W (model prog w) G Q E (runL prog w G s κ t p L n tr).κ (callK (runL prog w G s κ t p L n tr).t (.error er)) (runL prog w G s κ t p L n tr).p s') { s with heap := h', toks := s.toks + i' }) :
    W (model prog w) G Q E κ t p s := by
  simp only [resC, Prod.mk.injEq] at e
  obtain ⟨e2, e3, e8, e4, e5, e6, e7, e1⟩ := e
  refine seg_any L n tr hL hn is L' m' i' P' e1 e4 e5 e6 e7 hP his fun h' H => ?_
  have hin := in_ctx' hIn _ (noByPass_of e2)
  refine W_callC e3 ?_
  have z := hk h' H _ rfl (hin.1.symm.trans e8) _ (runL prog w G s κ t p L n tr).p hin
  unfold call at z
  rw [Sem.wp_runValue] at z
  refine wpCode_mono (fun r s' hr => ?_) z
  cases r with
  | ok f => cases f with
    | ret v => exact hr
    | _ => exact hr.elim
  | error e => exact hr
theorem any_fin {t : Sem Fin} {Q : Fin → Shared → Prop} {E : Value → Shared → Prop} (hh : A.handled = none) (L : List (Addr × Obj)) (n : Nat) (tr : List Nat) (fin : Fin) (is : List Nat) (L' : List (Addr × Obj)) (m' i' : Nat) (P' : Prop)
    (hL : ∀ x ∈ L, s.heap.get? x.1 = some x.2) (hn : (L.map (·.1)).Nodup)
    (e : ∀ c own below past p, resX (runL prog w ⟨c, none, own, below, past⟩ s .base t p L n tr) is = (.base, .pure fin, L', m', i', P', (runL prog w ⟨c, none, own, below, past⟩ s .base t p L n tr).bs)) (hP : P') (his : is.Nodup)
    (hk : ∀ h', HS s.heap h' (L.map (·.1)) L' m' → Q fin { s with heap := h', toks := s.toks + i' }) : wpAny (model prog w) A t Q E s :=
  enter_any hh fun c own below past p _ => go_fin L n tr (.pure fin) is L' m' i' P' hL hn (e c own below past p) hP his fun h' _ H => base_done' (hk h' H)

theorem next_list_some {it l : Addr} {i : Nat} {xs : Array Value} {n : Nat} {d : Option Addr} {sl : Array (Option Value)} {v : Value}
    (h1 : s.heap.get? it = some (fldO "list_iterator" #[.ref l, .int (i : Int) 0])) (h2 : s.heap.get? l = some ⟨.type "list", d, .seq xs n, sl⟩) (hx : xs[i]? = some v)
    (hk : ∀ h', Heap.SameBut it s.heap h' → h'.get? it = some (fldO "list_iterator" #[.ref l, .int ((i : Int) + 1) 0]) → R (.ok (.ret v)) { s with heap := h' }) :
    codeAny (model prog w) A (.call (.builtin "list_iterator.__next__") ⟨[.ref it], []⟩) R s := by
  have hT : s.TypeIs (.ref it) "list_iterator" := ⟨_, h1, rfl⟩
  refine codeAny_call_builtin slot_listiter_next.plain entry_listiter_next (slot_listiter_next.check _ _ _ _ _ _ _ _ hT (args_listiter_next _) ?_)
  show wpAny _ _ (field (.ref it) 0 >>= _) _ _ s
  refine wpAny_bind (wpAny_field h1 rfl (x := .ref l) rfl ?_)
  show wpAny _ _ (if (Value.ref l == Value.none) = true then _ else _) _ _ s
  rw [if_neg (show ¬ ((Value.ref l == Value.none) = true) from Bool.false_ne_true)]
  show wpAny _ _ (field (.ref it) 1 >>= _) _ _ s
  refine wpAny_bind (wpAny_field h1 rfl (x := .int i 0) rfl ?_)
  show wpAny _ _ (seqItems? (.ref l) >>= _) _ _ s
  refine wpAny_bind (wpAny_seqItems h2 rfl ?_)
  simp only [Int.toNat_natCast, hx]
  refine wpAny_bind (wpAny_setField h1 rfl (by simp) (wpAny_pure ?_))
  refine hk _ (Heap.SameBut.update ..) ?_
  rw [Heap.get?_update_self _ h1 rfl]
  rfl

theorem next_list_end {it l : Addr} {i : Nat} {xs : Array Value} {n : Nat} {d : Option Addr} {sl : Array (Option Value)} (hh : A.handled = none)
    (h1 : s.heap.get? it = some (fldO "list_iterator" #[.ref l, .int (i : Int) 0])) (h2 : s.heap.get? l = some ⟨.type "list", d, .seq xs n, sl⟩) (hx : xs[i]? = none)
    (hk : ∀ h', HS s.heap h' [it] [(s.heap.objs.size + 1, stopO s.heap.objs.size), (s.heap.objs.size, tupO #[]), (it, fldO "list_iterator" #[.none, .int (i : Int) 0])] 2 →
      R (.error (.ref (s.heap.objs.size + 1))) { s with heap := h' }) :
    codeAny (model prog w) A (.call (.builtin "list_iterator.__next__") ⟨[.ref it], []⟩) R s := by
  have hT : s.TypeIs (.ref it) "list_iterator" := ⟨_, h1, rfl⟩
  refine codeAny_call_builtin slot_listiter_next.plain entry_listiter_next (slot_listiter_next.check _ _ _ _ _ _ _ _ hT (args_listiter_next _) ?_)
  show wpAny _ _ (field (.ref it) 0 >>= _) _ _ s
  refine wpAny_bind (wpAny_field h1 rfl (x := .ref l) rfl ?_)
  show wpAny _ _ (if (Value.ref l == Value.none) = true then _ else _) _ _ s
  rw [if_neg (show ¬ ((Value.ref l == Value.none) = true) from Bool.false_ne_true)]
  show wpAny _ _ (field (.ref it) 1 >>= _) _ _ s
  refine wpAny_bind (wpAny_field h1 rfl (x := .int i 0) rfl ?_)
  show wpAny _ _ (seqItems? (.ref l) >>= _) _ _ s
  refine wpAny_bind (wpAny_seqItems h2 rfl ?_)
  simp only [Int.toNat_natCast, hx]
  refine enter_any (A := A.in1) hh fun c own below past p _ => ?_
  refine seg_fin [(it, fldO "list_iterator" #[.ref l, .int (i : Int) 0])] 20 [0, 0, 0, 0, 0, 0, 0, 0, 0] .base (.raise (.ref (s.heap.objs.size + 1))) [0, 1, 2]
    [(s.heap.objs.size + 1, stopO s.heap.objs.size), (s.heap.objs.size, tupO #[]), (it, fldO "list_iterator" #[.none, .int (i : Int) 0])] 2 0 True
    (by simpa using h1) (by simp) (by kernel_rfl) (by kernel_rfl) (by kernel_rfl) (by kernel_rfl) (by kernel_rfl) (by kernel_rfl) (by kernel_rfl) trivial (by decide) ?_
  intro h' p' H
  exact base_raise (hk h' H)
end
end Mine
end

section
open PySem PySem.W PySem.W.X PySem.Builtin PyProof.Rows
set_option maxRecDepth 100000
namespace Mine
noncomputable abbrev assignX := PySem.W.Fast.tw17772580674575903948
noncomputable abbrev evalX := PySem.W.Fast.tw14044960220447912780
noncomputable abbrev callX : Value → List Value → List (Str × Value) → Sem Value := @PySem.W.Fast.tw11478286150595567475
theorem assign_eq : @PySem.assign = assignX := PySem.W.Fast.te17772580674575903948
theorem eval_eq : @PySem.eval = evalX := PySem.W.Fast.te14044960220447912780
theorem call_eq : @PySem.call = callX := PySem.W.Fast.te11478286150595567475
noncomputable abbrev execsX : List Stmt → Env → Sem Flow := @PySem.W.Fast.tw12563942051412417395
theorem execs_eq : @PySem.execs = execsX := PySem.W.Fast.te12563942051412417395
noncomputable def valF (t : Sem Value) : Sem Fin := t.bind fun v => .pure (.done (.ret v))
noncomputable def flowF (t : Sem Flow) : Sem Fin := t.bind fun f => .pure (.done f)
noncomputable def envF (t : Sem Env) : Sem Fin := t.bind fun e => .pure (.again (.func [] e))
abbrev ValQ (Q : Value → Shared → Prop) : Fin → Shared → Prop := fun fin s' => match fin with
  | .done (.ret v) => Q v s'
  | _ => False
abbrev FlowQ (Q : Flow → Shared → Prop) : Fin → Shared → Prop := fun fin s' => match fin with
  | .done f => Q f s'
  | _ => False
abbrev EnvQ (Q : Env → Shared → Prop) : Fin → Shared → Prop := fun fin s' => match fin with
  | .again (.func _ e) => Q e s'
  | _ => False
theorem wpAny_valF {M : Model} {A : Around} {s : Shared} {t : Sem Value} {Q : Value → Shared → Prop} {E : Value → Shared → Prop} (h : wpAny M A (valF t) (ValQ Q) E s) : wpAny M A t Q E s := fun Γ p hΓ => by
  have z := h Γ p hΓ
  unfold valF at z
  rw [show t.bind (fun v => Sem.pure (Fin.done (Flow.ret v))) = (t >>= fun v => Sem.pure (Fin.done (Flow.ret v))) from rfl, Sem.wp_bind'] at z
  simpa only [Sem.wp_pure] using z
theorem wpAny_flowF {M : Model} {A : Around} {s : Shared} {t : Sem Flow} {Q : Flow → Shared → Prop} {E : Value → Shared → Prop} (h : wpAny M A (flowF t) (FlowQ Q) E s) : wpAny M A t Q E s := fun Γ p hΓ => by
  have z := h Γ p hΓ
  unfold flowF at z
  rw [show t.bind (fun v => Sem.pure (Fin.done v)) = (t >>= fun v => Sem.pure (Fin.done v)) from rfl, Sem.wp_bind'] at z
  simpa only [Sem.wp_pure] using z
theorem wpAny_envF {M : Model} {A : Around} {s : Shared} {t : Sem Env} {Q : Env → Shared → Prop} {E : Value → Shared → Prop} (h : wpAny M A (envF t) (EnvQ Q) E s) : wpAny M A t Q E s := fun Γ p hΓ => by
  have z := h Γ p hΓ
  unfold envF at z
  rw [show t.bind (fun v => Sem.pure (Fin.again (Code.func [] v))) = (t >>= fun v => Sem.pure (Fin.again (Code.func [] v))) from rfl, Sem.wp_bind'] at z
  simpa only [Sem.wp_pure] using z
theorem wp_execs_append {M : Model} {Γ : Ctx} {env : Env} {Q : Flow → Pos → Shared → Prop} {E : Value → Pos → Shared → Prop} (b : List Stmt) : ∀ (a : List Stmt) (p : Pos) (s : Shared),
    Sem.wp M Γ (execs a env) (fun f p' s' => match f with | .next => Sem.wp M Γ (execs b env) Q E p' s' | f => Q f p' s') E p s → Sem.wp M Γ (execs (a ++ b) env) Q E p s
  | [], p, s, h => by
    rw [execs_nil] at h
    rw [List.nil_append]
    simpa only [Sem.wp_pure'] using h
  | st :: a, p, s, h => by
    rw [List.cons_append, execs_cons, Sem.wp_bind']
    rw [execs_cons, Sem.wp_bind'] at h
    refine Sem.wp_mono M Γ _ (fun f p' s' h' => ?_) (fun _ _ _ h' => h') _ _ h
    cases f with
    | next => exact wp_execs_append b a p' s' h'
    | _ => simpa only [Sem.wp_pure'] using h'
theorem wpAny_execs_append {M : Model} {A : Around} {s : Shared} {env : Env} {Q : Flow → Shared → Prop} {E : Value → Shared → Prop} (a b : List Stmt) (h : wpAny M A (execs a env) (fun f s' => match f with | .next => wpAny M A (execs b env) Q E s' | f => Q f s') E s) : wpAny M A (execs (a ++ b) env) Q E s := fun Γ p hΓ =>
  wp_execs_append b a p s (Sem.wp_mono M Γ _ (fun f p' s' h' => by cases f <;> first | exact h' Γ p' hΓ | exact h') (fun _ _ _ h' => h') _ _ (h Γ p hΓ))
section
variable {prog : Program} {w : World} {A : Around} {s : Shared} {R : Result → Shared → Prop}
abbrev FinQ (prog : Program) (w : World) (A : Around) (R : Result → Shared → Prop) : Fin → Shared → Prop := fun fin s' => match fin with
  | .done f => R (.ok f) s'
  | .again c' => c'.quiet = true ∧ codeAny (model prog w) A c' R s'
abbrev NoE : Value → Shared → Prop := fun _ _ => False
noncomputable def bodyX (c : Code) (elt target : Expr) (acc : Value) (env : Env) (v : Value) : Sem Fin :=
  (assignX target env v).bind fun _ => (evalX elt env).bind fun x => (callX (.builtin "list.append") [acc, x] []).bind fun _ => .pure (.again c)
theorem comp_step {elt target iter : Expr} {sc : Scope} {pos : Pos} {it acc : Value} {env : Env} {e : Expr} (he : e = .ListComp elt [⟨target, iter, [], 0⟩] sc pos)
    (h : wpAny (model prog w) A (pyNext it) (fun r s₁ => match r with
      | none => R (.ok .next) s₁
      | some v => wpAny (model prog w) A (letOwnedTupleGo target it v) (fun _ s₂ => wpAny (model prog w) A (bodyX (.compLoop e 0 it acc env) elt target acc env v) (FinQ prog w A R) NoE s₂) NoE s₁) NoE s) :
    codeAny (model prog w) A (.compLoop e 0 it acc env) R s := by
  subst he
  refine codeAny_of_tree ?_
  show wpAny _ A ((compTurn (.ListComp elt [⟨target, iter, [], 0⟩] sc pos) 0 it acc env).onRaise (fun x => do noteFrame x env; theTreesLotGoes x)) _ _ s
  refine wpAny_noted ?_
  rw [compTurn_list1]
  refine wpAny_bind (wpAny_standAt (wpAny_bind (wpAny_mono h (fun r s₁ h₁ => ?_) fun _ _ h' => h'.elim)))
  cases r with
  | none => exact wpAny_pure h₁
  | some v =>
    refine wpAny_bind (wpAny_mono h₁ (fun _ s₂ h₂ => ?_) fun _ _ h' => h'.elim)
    have e : bodyX (.compLoop (.ListComp elt [⟨target, iter, [], 0⟩] sc pos) 0 it acc env) elt target acc env v =
        (assign target env v >>= fun _ => (eval elt env >>= fun x => call (.builtin "list.append") [acc, x] >>= fun _ => pure ()) >>= fun _ => again (.compLoop (.ListComp elt [⟨target, iter, [], 0⟩] sc pos) 0 it acc env)) := by
      rw [assign_eq, eval_eq, call_eq]
      simp only [bodyX, bind_assoc, pure_bind]
      rfl
    rw [e] at h₂
    exact wpAny_mono h₂ (fun fin s₃ h₃ => by cases fin <;> exact h₃) fun _ _ h' => h'.elim
end
end Mine
end

section
open PySem PySem.W PySem.W.X PySem.Builtin PyProof.Rows
set_option maxRecDepth 100000
namespace Mine
def D2 (P : Params) (k1 k2 : Str) : Option (Tok × Value × Tok × Value) → Obj
  | none => dicO #[] 0
  | some (t1, v1, t2, v2) => dicO #[ent P k1 t1 v1, ent P k2 t2 v2] 2
theorem drop_cons {α : Type} {l : List α} {i : Nat} {v : α} {vs : List α} (h : l.drop i = v :: vs) : l[i]? = some v ∧ l.drop (i + 1) = vs := by
  constructor
  · have := congrArg List.head? h
    rwa [List.head?_drop] at this
  · have := congrArg List.tail h
    rwa [List.tail_drop] at this
theorem drop_nil {α : Type} {l : List α} {i : Nat} (h : l.drop i = []) : l[i]? = none := by
  have := congrArg List.head? h
  rwa [List.head?_drop] at this
noncomputable def firstVals : Nat → List Int → List Int
  | _, [] => []
  | i, a :: r => Int.fmod (a + 91 * i) 256 :: firstVals (i + 1) r
theorem nd3 {a b c : Nat} (h1 : a ≠ b) (h2 : a ≠ c) (h3 : b ≠ c) : [a, b, c].Nodup := by simp [h1, h2, h3]
section
variable {w : World} {b1 b2 : Bool} {A : Around} {R : Result → Shared → Prop}
abbrev firstC (En acc C L : Addr) : Code := .compLoop firstE 0 (.ref En) (.ref acc) (inEnv firstSc C L [])
theorem first_loop (hh : A.handled = none) {En I l acc C L : Addr} {xs : Array Value} (hnd : [En, I, acc, C, l].Nodup) : ∀ (rest : List Int) (i : Nat) (s : Shared) (ys : Array Value) (k : Nat) (old : Value) (q : Option (Tok × Value × Tok × Value)),
    IsEnum s.heap En I i old → s.heap.IsListIter I l i → s.heap.IsList l xs → s.heap.get? acc = some (lstO ys k) → s.heap.get? C = some (D2 (pb w.params b1 b2) "i" "x" q) →
    IntsAre (xs.toList.drop i) rest → ys.size + rest.length ≤ sizeLine →
    (∀ h' tk zs k' q', (∀ b o, s.heap.get? b = some o → b ∉ [En, I, acc, C] → h'.get? b = some o) →
      h'.get? acc = some (lstO (ys ++ zs) k') → IntsAre zs.toList (firstVals i rest) → h'.get? C = some (D2 (pb w.params b1 b2) "i" "x" q') → R (.ok .next) { s with heap := h', toks := tk }) →
    codeAny (model prg (wb w b1 b2)) A (firstC En acc C L) R s := by
  intro rest
  induction rest with
  | nil =>
    intro i s ys k old q he hit hl hacc hC hxs hz hk
    generalize hdl : xs.toList.drop i = dl at hxs
    cases hxs
    have hx : xs[i]? = none := by rw [← Array.getElem?_toList]; exact drop_nil hdl
    refine comp_step rfl (wpAny_pyNext_enum_end hh he hit hl hx fun h' hE => ?_)
    have K : ∀ b o, s.heap.get? b = some o → b ∉ [En, I, acc, C] → h'.get? b = some o := fun b o hb hn => hE b o (nm_ne hn 1 rfl) hb
    refine hk h' s.toks #[] k q K ?_ .nil (hE _ _ (nd_ne hnd 3 1 rfl rfl) hC)
    rw [Array.append_empty]; exact hE _ _ (nd_ne hnd 2 1 rfl rfl) hacc
  | cons a rest ih =>
    intro i s ys k old q he hit hl hacc hC hxs hz hk
    generalize hdl : xs.toList.drop i = dl at hxs
    cases hxs with
    | cons _ t hvs =>
    have hx : xs[i]? = some (.int a t) := by rw [← Array.getElem?_toList]; exact (drop_cons hdl).1
    rw [List.length_cons] at hz
    have hEI : En ≠ I := nd_ne hnd 0 1 rfl rfl
    have hEacc : acc ≠ En := nd_ne hnd 2 0 rfl rfl
    have hIacc : acc ≠ I := nd_ne hnd 2 1 rfl rfl
    have hEC : C ≠ En := nd_ne hnd 3 0 rfl rfl
    have hIC : C ≠ I := nd_ne hnd 3 1 rfl rfl
    have hAC : acc ≠ C := nd_ne hnd 2 3 rfl rfl
    have hET : En ≠ s.heap.objs.size := Nat.ne_of_lt (Heap.lt_size he)
    have hIT : I ≠ s.heap.objs.size := by obtain ⟨o, ho, _⟩ := hit; exact Nat.ne_of_lt (Heap.lt_size ho)
    have hTacc : s.heap.objs.size ≠ acc := Nat.ne_of_gt (Heap.lt_size hacc)
    have hTC : s.heap.objs.size ≠ C := Nat.ne_of_gt (Heap.lt_size hC)
    have hTE := hET.symm
    have hIE := hEI.symm
    have hl3 : ∀ {h3 : Heap}, (∀ b o, s.heap.get? b = some o → b ∉ [En, I, acc, C] → h3.get? b = some o) → h3.IsList l xs := fun hK => by
      obtain ⟨o, ho, r⟩ := hl
      exact ⟨o, hK _ _ ho (nd_out hnd 4 [0, 1, 2, 3] rfl), r⟩
    refine comp_step rfl (wpAny_pyNext_enum_item he hit hl hx hEI fun h₁ f1 f2 f3 f4 f5 => ?_)
    refine wpAny_letOwnedTupleGo_enum f1 fun h₂ g1 hs2 => ?_
    have k2 : ∀ {o} b, b ≠ En → h₁.get? b = some o → h₂.get? b = some o := fun b hb e => (hs2.2 b hb).trans e
    have z2 : h₂.objs.size = s.heap.objs.size + 1 := hs2.1.trans f4
    cases q with
    | none =>
      refine any_fin hh [(s.heap.objs.size, tupO #[.int i s.toks, .int a t]), (acc, lstO ys k), (C, dicO #[] 0)] 79 [0, 0, 0, 0, 0, 0, 0, 0, 0, 1, 0, 0, 0, 0, 0, 0, 1, 0, 0, 0, 0, 0, 0, 1, 0, 0, 0, 5, 5, 5, 5, 5, 5, 4] (.again (firstC En acc C L)) [4, 5]
        [(acc, lstO (ys.push (.int (Int.fmod (a + 91 * i) 256) (s.toks + 1 + 6))) (k + 1)), (C, D2 (pb w.params b1 b2) "i" "x" (some (s.toks + 1 + 0, .int i s.toks, s.toks + 1 + 1, .int a t)))] 3 7
        ((Value.type "list" = .type "list" ∧ ys.size ≤ sizeLine) ∧ IntMulOk 91 i ∧ True) ?_ ?_ (fun _ _ _ _ _ => by cases b2 <;> kernel_rfl) ⟨⟨rfl, by omega⟩, .of_left (by decide), trivial⟩ (by decide) ?_
      · simp only [List.mem_cons, List.not_mem_nil, or_false, forall_eq_or_imp, forall_eq]
        exact ⟨k2 _ hTE f3, (k2 _ hEacc ((f5 _ _ hEacc hIacc hacc))), (k2 _ hEC (f5 _ _ hEC hIC hC))⟩
      · exact nd3 hTacc hTC hAC
      · intro h3 H3
        have K : ∀ b o, s.heap.get? b = some o → b ∉ [En, I, acc, C] → h3.get? b = some o := fun b o hb hn =>
          H3.keep b o (k2 _ (nm_ne hn 0 rfl) (f5 b o (nm_ne hn 0 rfl) (nm_ne hn 1 rfl) hb)) (by
            intro hm
            rcases List.mem_cons.mp hm with e | hm
            · exact absurd (Heap.lt_size hb) (by rw [show b = _ from e]; exact Nat.lt_irrefl _)
            · rcases List.mem_cons.mp hm with e | hm
              · exact nm_ne hn 2 rfl e
              · rcases List.mem_cons.mp hm with e | hm
                · exact nm_ne hn 3 rfl e
                · cases hm)
        have kk : ∀ b o, b ≠ s.heap.objs.size → b ≠ acc → b ≠ C → h₂.get? b = some o → h3.get? b = some o := fun b o n1 n2 n3 hb => H3.keep b o hb (by
            intro hm
            rcases List.mem_cons.mp hm with e | hm
            · exact n1 e
            · rcases List.mem_cons.mp hm with e | hm
              · exact n2 e
              · rcases List.mem_cons.mp hm with e | hm
                · exact n3 e
                · cases hm)
        refine ⟨rfl, ih (i + 1) _ _ (k + 1) (.int a t) (some _) (kk _ _ hET hEacc.symm hEC.symm g1) ?_ ?_ (H3.at 0 rfl) (H3.at 1 rfl) ?_ ?_ ?_⟩
        · exact Heap.IsListIter.at (Heap.IsListIter.extBut f2 hs2.extBut hIE) fun o e => kk _ _ hIT hIacc.symm hIC.symm e
        · exact hl3 (fun b o hb hn => K b o hb hn)
        · rw [(drop_cons hdl).2]; exact hvs
        · simp only [Array.size_push]; omega
        · intro h4 tk zs k' q' c1 c3 c4 c5
          refine hk h4 tk (#[.int (Int.fmod (a + 91 * i) 256) (s.toks + 1 + 6)] ++ zs) k' q' (fun b o hb hn => c1 b o (K b o hb hn) hn) ?_ ?_ c5
          · rw [c3]; simp
          · rw [Array.toList_append]; exact .cons _ _ c4
    | some q =>
      obtain ⟨t1, v1, t2, v2⟩ := q
      refine any_fin hh [(s.heap.objs.size, tupO #[.int i s.toks, .int a t]), (acc, lstO ys k), (C, dicO #[ent (pb w.params b1 b2) "i" t1 v1, ent (pb w.params b1 b2) "x" t2 v2] 2)] 79 [0, 0, 0, 0, 0, 0, 0, 0, 0, 1, 0, 0, 0, 0, 0, 0, 1, 0, 0, 0, 0, 0, 0, 1, 0, 0, 0, 5, 5, 5, 5, 5, 5, 4] (.again (firstC En acc C L)) [4, 5]
        [(acc, lstO (ys.push (.int (Int.fmod (a + 91 * i) 256) (s.toks + 1 + 6))) (k + 1)), (C, D2 (pb w.params b1 b2) "i" "x" (some (t1, .int i s.toks, t2, .int a t)))] 3 7
        ((Value.type "list" = .type "list" ∧ ys.size ≤ sizeLine) ∧ IntMulOk 91 i ∧ True) ?_ ?_ (fun _ _ _ _ _ => by cases b2 <;> kernel_rfl) ⟨⟨rfl, by omega⟩, .of_left (by decide), trivial⟩ (by decide) ?_
      · simp only [List.mem_cons, List.not_mem_nil, or_false, forall_eq_or_imp, forall_eq]
        exact ⟨k2 _ hTE f3, (k2 _ hEacc ((f5 _ _ hEacc hIacc hacc))), (k2 _ hEC (f5 _ _ hEC hIC hC))⟩
      · exact nd3 hTacc hTC hAC
      · intro h3 H3
        have K : ∀ b o, s.heap.get? b = some o → b ∉ [En, I, acc, C] → h3.get? b = some o := fun b o hb hn =>
          H3.keep b o (k2 _ (nm_ne hn 0 rfl) (f5 b o (nm_ne hn 0 rfl) (nm_ne hn 1 rfl) hb)) (by
            intro hm
            rcases List.mem_cons.mp hm with e | hm
            · exact absurd (Heap.lt_size hb) (by rw [show b = _ from e]; exact Nat.lt_irrefl _)
            · rcases List.mem_cons.mp hm with e | hm
              · exact nm_ne hn 2 rfl e
              · rcases List.mem_cons.mp hm with e | hm
                · exact nm_ne hn 3 rfl e
                · cases hm)
        have kk : ∀ b o, b ≠ s.heap.objs.size → b ≠ acc → b ≠ C → h₂.get? b = some o → h3.get? b = some o := fun b o n1 n2 n3 hb => H3.keep b o hb (by
            intro hm
            rcases List.mem_cons.mp hm with e | hm
            · exact n1 e
            · rcases List.mem_cons.mp hm with e | hm
              · exact n2 e
              · rcases List.mem_cons.mp hm with e | hm
                · exact n3 e
                · cases hm)
        refine ⟨rfl, ih (i + 1) _ _ (k + 1) (.int a t) (some _) (kk _ _ hET hEacc.symm hEC.symm g1) ?_ ?_ (H3.at 0 rfl) (H3.at 1 rfl) ?_ ?_ ?_⟩
        · exact Heap.IsListIter.at (Heap.IsListIter.extBut f2 hs2.extBut hIE) fun o e => kk _ _ hIT hIacc.symm hIC.symm e
        · exact hl3 (fun b o hb hn => K b o hb hn)
        · rw [(drop_cons hdl).2]; exact hvs
        · simp only [Array.size_push]; omega
        · intro h4 tk zs k' q' c1 c3 c4 c5
          refine hk h4 tk (#[.int (Int.fmod (a + 91 * i) 256) (s.toks + 1 + 6)] ++ zs) k' q' (fun b o hb hn => c1 b o (K b o hb hn) hn) ?_ ?_ c5
          · rw [c3]; simp
          · rw [Array.toList_append]; exact .cons _ _ c4
end
end Mine
end

section
open PySem PySem.W PySem.W.X PySem.Builtin PyProof.Rows
set_option maxRecDepth 100000
namespace Mine
section
variable {prog : Program} {w : World} {A : Around} {R : Result → Shared → Prop}
theorem comp_walk {I : Addr} {fp wr : List Addr} {n : Nat} {P : Nat → Value → Prop} {St : Nat → Heap → Prop} (W : Walks prog w A I fp wr n P St)
    {elt target iter : Expr} {sc : Scope} {pos : Pos} {acc : Value} {env : Env} {e : Expr} (he : e = .ListComp elt [⟨target, iter, [], 0⟩] sc pos)
    (hlet : ∀ v, letOwnedTupleGo target (.ref I) v = pure ()) (Inv : Nat → Shared → Prop)
    (stable : ∀ i s h' tk, Inv i s → (∀ b o, b ∉ wr → s.heap.get? b = some o → h'.get? b = some o) → Inv i { s with heap := h', toks := tk })
    (body : ∀ i v s (Q : Fin → Shared → Prop), i < n → P i v → St (i + 1) s.heap → Inv i s → (∀ s', St (i + 1) s'.heap → Inv (i + 1) s' → Q (.again (.compLoop e 0 (.ref I) acc env)) s') →
      wpAny (model prog w) A (bodyX (.compLoop e 0 (.ref I) acc env) elt target acc env v) Q NoE s)
    (fin : ∀ s', Inv n s' → R (.ok .next) s') :
    ∀ (k i : Nat) (s : Shared), k = n - i → i ≤ n → St i s.heap → Inv i s → codeAny (model prog w) A (.compLoop e 0 (.ref I) acc env) R s := by
  intro k
  induction k with
  | zero =>
    intro i s hk hi hst hI
    have : i = n := by omega
    subst this
    refine comp_step he (W.done s _ _ hst fun h' tk hK => ?_)
    exact fin _ (stable _ _ h' tk hI hK)
  | succ k ih =>
    intro i s hk hi hst hI
    refine comp_step he (W.item i s _ _ (by omega) hst fun v h' tk hP hS hK => ?_)
    show wpAny _ _ (letOwnedTupleGo target (.ref I) v) _ _ _
    rw [hlet]
    refine wpAny_pure ?_
    refine body i v _ _ (by omega) hP hS (stable _ _ h' tk hI hK) fun s' hS' hI' => ⟨rfl, ih (i + 1) s' (by omega) (by omega) hS' hI'⟩
theorem comp_walkT {I : Addr} {fp wr : List Addr} {n : Nat} {Pt : Nat → Array Value → Prop} {St : Nat → Heap → Prop} {Mid : Nat → Addr → Heap → Prop} (W : WalksT prog w A I fp wr n Pt St Mid)
    {elt iter : Expr} {elts : List Expr} {ktup : Nat} {ptup : Pos} {sc : Scope} {pos : Pos} {acc : Value} {env : Env} {e : Expr} (he : e = .ListComp elt [⟨.Tuple elts ktup ptup, iter, [], 0⟩] sc pos)
    (Inv : Nat → Shared → Prop)
    (stable : ∀ i s h' tk, Inv i s → (∀ b o, b ∉ wr → s.heap.get? b = some o → h'.get? b = some o) → Inv i { s with heap := h', toks := tk })
    (body : ∀ i T vals s₀ s (Q : Fin → Shared → Prop), i < n → Pt i vals → s.heap.IsTuple T vals → s₀.heap.objs.size ≤ T → St i s₀.heap → Inv i s₀ → St (i + 1) s.heap → Inv i s →
      (∀ s', St (i + 1) s'.heap → Inv (i + 1) s' → Q (.again (.compLoop e 0 (.ref I) acc env)) s') →
      wpAny (model prog w) A (bodyX (.compLoop e 0 (.ref I) acc env) elt (.Tuple elts ktup ptup) acc env (.ref T)) Q NoE s)
    (fin : ∀ s', Inv n s' → R (.ok .next) s') :
    ∀ (k i : Nat) (s : Shared), k = n - i → i ≤ n → St i s.heap → Inv i s → codeAny (model prog w) A (.compLoop e 0 (.ref I) acc env) R s := by
  intro k
  induction k with
  | zero =>
    intro i s hk hi hst hI
    have : i = n := by omega
    subst this
    refine comp_step he (W.done s _ _ hst fun h' tk hK => ?_)
    exact fin _ (stable _ _ h' tk hI hK)
  | succ k ih =>
    intro i s hk hi hst hI
    refine comp_step he (W.item i s _ _ (by omega) hst fun T vals h' tk hP hsz hT hM hK => ?_)
    refine W.go elts ktup ptup i T _ _ _ hM fun h2 hS hK2 => ?_
    have hI1 := stable _ _ h' tk hI hK
    have hT2 : h2.IsTuple T vals := by obtain ⟨o, ho, r⟩ := hT; exact ⟨o, hK2 _ _ (W.apart i T _ hM) ho, r⟩
    have hI2 := stable _ _ h2 tk hI1 hK2
    exact body i T vals s _ _ (by omega) hP hT2 hsz hst hI hS hI2 fun s' hS' hI' => ⟨rfl, ih (i + 1) s' (by omega) (by omega) hS' hI'⟩
end

-- heaps that keep
def Kp (M : List Addr) (h h' : Heap) : Prop := ∀ b o, h.get? b = some o → b ∉ M → h'.get? b = some o
theorem Kp.refl (M : List Addr) (h : Heap) : Kp M h h := fun _ _ e _ => e
theorem Kp.trans {M : List Addr} {h h1 h2 : Heap} (a : Kp M h h1) (b : Kp M h1 h2) : Kp M h h2 := fun x o e n => b x o (a x o e n) n
theorem Kp.mono {M M' : List Addr} {h h1 : Heap} (a : Kp M h h1) (hs : ∀ x ∈ M, x ∈ M') : Kp M' h h1 := fun x o e n => a x o e fun m => n (hs x m)
theorem HS.kp {h0 h : Heap} {A0 : List Addr} {L : List (Addr × Obj)} {m : Nat} (H : HS h0 h A0 L m) : Kp A0 h0 h := H.keep
/-- a ledger's addresses that came new count for nothing -/
theorem Kp.drop {T : Addr} {M : List Addr} {h h1 : Heap} (a : Kp (T :: M) h h1) (hT : h.get? T = none) : Kp M h h1 := fun x o e n => a x o e fun m => by
  rcases List.mem_cons.mp m with q | m
  · rw [q, hT] at e; cases e
  · exact n m
theorem none_of_ge {h : Heap} {a : Addr} (hs : h.objs.size ≤ a) : h.get? a = none := by
  cases e : h.get? a with
  | none => rfl
  | some o => exact absurd (Heap.lt_size e) (Nat.not_lt.mpr hs)
end Mine
end

section
open PySem PySem.W PySem.W.X PySem.Builtin PyProof.Rows
set_option maxRecDepth 100000
namespace Mine
section
variable {w : World} {b1 b2 : Bool} {A : Around} {R : Result → Shared → Prop}
abbrev rows0C (I acc C co L : Addr) : Code := .compLoop rows0E 0 (.ref I) (.ref acc) (inEnv rows0Sc C L [("o", co)])
/-- one turn's body -/
theorem rows0_body (hh : A.handled = none) {I acc C co L : Addr} {o : Int} {t : Tok} {s : Shared} {ys : Array Value} {k : Nat} {q : Option Value} {Q : Fin → Shared → Prop} {E : Value → Shared → Prop}
    (hnd : [acc, co, C, 3, 0, 4].Nodup) (h1 : s.heap.get? acc = some (lstO ys k)) (h2 : s.heap.get? co = some (cellO q)) (h3 : s.heap.get? C = some (dicO #[] 0))
    (g3 : s.heap.get? 3 = some (ob3 (pb w.params b1 b2))) (g0 : s.heap.get? 0 = some (ob0 (pb w.params b1 b2))) (g4 : s.heap.get? 4 = some (ob4 (pb w.params b1 b2))) (hz : ys.size ≤ sizeLine)
    (hk : ∀ h', HS s.heap h' [acc, co, C, 3, 0, 4] [(s.heap.objs.size + 2, rowO (bitI o) (fun j => s.toks + (11 + 9 * j)) 8), (acc, lstO (ys.push (.ref (s.heap.objs.size + 2))) (k + 1)), (co, cellO (some (.int o t))), (C, dicO #[] 0), (3, ob3 (pb w.params b1 b2)), (0, ob0 (pb w.params b1 b2)), (4, ob4 (pb w.params b1 b2))] 6 →
      Q (.again (rows0C I acc C co L)) { s with heap := h', toks := s.toks + 75 }) :
    wpAny (model prg (wb w b1 b2)) A (bodyX (rows0C I acc C co L) (compElt rows0E) (compTarget rows0E) (.ref acc) (inEnv rows0Sc C L [("o", co)]) (.int o t)) Q E s := by
  refine any_fin hh [(acc, lstO ys k), (co, cellO q), (C, dicO #[] 0), (3, ob3 (pb w.params b1 b2)), (0, ob0 (pb w.params b1 b2)), (4, ob4 (pb w.params b1 b2))] (cond b1 419 429) (cond b1 [1,1,3,4,0,0,0,0,0,0,0,0,0,0,0,2,2,2,2,2,2,2,2,2,0,0,5,0,1,2,2,2,2,2,2,2,2,2,0,0,5,0,1,2,2,2,2,2,2,2,2,2,0,0,5,0,1,2,2,2,2,2,2,2,2,2,0,0,5,0,1,2,2,2,2,2,2,2,2,2,0,0,5,0,1,2,2,2,2,2,2,2,2,2,0,0,5,0,1,2,2,2,2,2,2,2,2,2,0,0,5,0,1,2,2,2,2,2,2,2,2,2,0,0,5,0,1,2,2,2,2,2,0,2,2,2,6] [1,1,3,4,0,0,0,0,0,0,0,0,0,0,0,2,2,2,2,2,2,2,2,2,2,2,2,2,0,0,5,0,1,2,2,2,2,2,2,2,2,2,0,0,5,0,1,2,2,2,2,2,2,2,2,2,0,0,5,0,1,2,2,2,2,2,2,2,2,2,0,0,5,0,1,2,2,2,2,2,2,2,2,2,0,0,5,0,1,2,2,2,2,2,2,2,2,2,0,0,5,0,1,2,2,2,2,2,2,2,2,2,0,0,5,0,1,2,2,2,2,2,2,2,2,2,0,0,5,0,1,2,2,2,2,2,0,2,2,2,6]) (.again (rows0C I acc C co L)) [3, 6, 7, 8, 9, 10, 11]
    [(s.heap.objs.size + 2, rowO (bitI o) (fun j => s.toks + (11 + 9 * j)) 8), (acc, lstO (ys.push (.ref (s.heap.objs.size + 2))) (k + 1)), (co, cellO (some (.int o t))), (C, dicO #[] 0), (3, ob3 (pb w.params b1 b2)), (0, ob0 (pb w.params b1 b2)), (4, ob4 (pb w.params b1 b2))] 6 75
    ((Value.type "list" = .type "list" ∧ ys.size ≤ sizeLine) ∧ (Value.type "list" = .type "list" ∧ 7 ≤ sizeLine) ∧ ((2:Int) ^ 0 ≠ 0 ∧ Builtin.divisionGoesByPylong o ((2:Int) ^ 0) = false) ∧ ((2:Int) = 2 ∧ (0:Int) ≤ 0 ∧ (0:Int) ≤ 8) ∧ (Value.type "list" = .type "list" ∧ 6 ≤ sizeLine) ∧ ((2:Int) ^ 1 ≠ 0 ∧ Builtin.divisionGoesByPylong o ((2:Int) ^ 1) = false) ∧ ((2:Int) = 2 ∧ (0:Int) ≤ 1 ∧ (1:Int) ≤ 8) ∧ (Value.type "list" = .type "list" ∧ 5 ≤ sizeLine) ∧ ((2:Int) ^ 2 ≠ 0 ∧ Builtin.divisionGoesByPylong o ((2:Int) ^ 2) = false) ∧ ((2:Int) = 2 ∧ (0:Int) ≤ 2 ∧ (2:Int) ≤ 8) ∧ (Value.type "list" = .type "list" ∧ 4 ≤ sizeLine) ∧ ((2:Int) ^ 3 ≠ 0 ∧ Builtin.divisionGoesByPylong o ((2:Int) ^ 3) = false) ∧ ((2:Int) = 2 ∧ (0:Int) ≤ 3 ∧ (3:Int) ≤ 8) ∧ (Value.type "list" = .type "list" ∧ 3 ≤ sizeLine) ∧ ((2:Int) ^ 4 ≠ 0 ∧ Builtin.divisionGoesByPylong o ((2:Int) ^ 4) = false) ∧ ((2:Int) = 2 ∧ (0:Int) ≤ 4 ∧ (4:Int) ≤ 8) ∧ (Value.type "list" = .type "list" ∧ 2 ≤ sizeLine) ∧ ((2:Int) ^ 5 ≠ 0 ∧ Builtin.divisionGoesByPylong o ((2:Int) ^ 5) = false) ∧ ((2:Int) = 2 ∧ (0:Int) ≤ 5 ∧ (5:Int) ≤ 8) ∧ (Value.type "list" = .type "list" ∧ 1 ≤ sizeLine) ∧ ((2:Int) ^ 6 ≠ 0 ∧ Builtin.divisionGoesByPylong o ((2:Int) ^ 6) = false) ∧ ((2:Int) = 2 ∧ (0:Int) ≤ 6 ∧ (6:Int) ≤ 8) ∧ (Value.type "list" = .type "list" ∧ 0 ≤ sizeLine) ∧ ((2:Int) ^ 7 ≠ 0 ∧ Builtin.divisionGoesByPylong o ((2:Int) ^ 7) = false) ∧ ((2:Int) = 2 ∧ (0:Int) ≤ 7 ∧ (7:Int) ≤ 8) ∧ True) ?_ hnd (fun _ _ _ _ _ => by cases b1 <;> cases b2 <;> kernel_rfl) ⟨⟨rfl, hz⟩, ⟨rfl, by decide⟩, ⟨by decide, pyl _ _ (by decide)⟩, ⟨rfl, by decide, by decide⟩, ⟨rfl, by decide⟩, ⟨by decide, pyl _ _ (by decide)⟩, ⟨rfl, by decide, by decide⟩, ⟨rfl, by decide⟩, ⟨by decide, pyl _ _ (by decide)⟩, ⟨rfl, by decide, by decide⟩, ⟨rfl, by decide⟩, ⟨by decide, pyl _ _ (by decide)⟩, ⟨rfl, by decide, by decide⟩, ⟨rfl, by decide⟩, ⟨by decide, pyl _ _ (by decide)⟩, ⟨rfl, by decide, by decide⟩, ⟨rfl, by decide⟩, ⟨by decide, pyl _ _ (by decide)⟩, ⟨rfl, by decide, by decide⟩, ⟨rfl, by decide⟩, ⟨by decide, pyl _ _ (by decide)⟩, ⟨rfl, by decide, by decide⟩, ⟨rfl, by decide⟩, ⟨by decide, pyl _ _ (by decide)⟩, ⟨rfl, by decide, by decide⟩, trivial⟩ (by decide) hk
  simp only [List.mem_cons, List.not_mem_nil, or_false, forall_eq_or_imp, forall_eq]
  exact ⟨h1, h2, h3, g3, g0, g4⟩
end
end Mine
end

section
open PySem PySem.W PySem.W.X PySem.Builtin PyProof.Rows
set_option maxRecDepth 100000
namespace Mine
/-- the objects that stay as the top left them -/
def fixL (P : Params) : List (Addr × Obj) :=
  [(0, ob0 P), (2, ob2 P), (3, ob3 P), (4, ob4 P), (323, ob323 P), (333, ob333 P), (343, ob343 P), (324, ob324), (334, ob334), (344, ob344), (326, ob326 P), (336, ob336 P), (346, ob346 P), (448, ob448 P), (449, ob449 P), (518, ob518 P), (522, ob522 P), (523, ob523)]
def Fix (P : Params) (h : Heap) : Prop := ∀ x ∈ fixL P, h.get? x.1 = some x.2
theorem fix_lt {P : Params} : ∀ x ∈ fixL P, x.1 < 524 := by
  intro x hx
  have : x.1 ∈ (fixL P).map (·.1) := List.mem_map_of_mem hx
  have e : (fixL P).map (·.1) = [0, 2, 3, 4, 323, 333, 343, 324, 334, 344, 326, 336, 346, 448, 449, 518, 522, 523] := rfl
  rw [e] at this
  exact (by decide : ∀ n ∈ ([0, 2, 3, 4, 323, 333, 343, 324, 334, 344, 326, 336, 346, 448, 449, 518, 522, 523] : List Nat), n < 524) _ this
theorem Fix.get {P : Params} {h : Heap} (F : Fix P h) (i : Nat) {a : Addr} {o : Obj} (e : (fixL P)[i]? = some (a, o) := by rfl) : h.get? a = some o := F _ (List.mem_of_getElem? e)
theorem Fix.keep {P : Params} {h h' : Heap} {M : List Addr} (F : Fix P h) (K : Kp M h h') (hM : ∀ a ∈ M, 524 ≤ a) : Fix P h' := fun x hx =>
  K _ _ (F x hx) fun hm => absurd (fix_lt x hx) (Nat.not_lt.mpr (hM _ hm))
theorem Fix.keepX {P : Params} {h h' : Heap} {M : List Addr} (F : Fix P h) (K : Kp M h h') (hM : ∀ a ∈ ([0, 2, 3, 4, 323, 333, 343, 324, 334, 344, 326, 336, 346, 448, 449, 518, 522, 523] : List Nat), a ∉ M) : Fix P h' := fun x hx =>
  K _ _ (F x hx) (hM _ (List.mem_map_of_mem (f := (·.1)) hx))
theorem Kp.fresh {M : List Addr} {h0 h : Heap} {b : Addr} (K : Kp M h0 h) (hM : ∀ a ∈ M, ∃ o, h.get? a = some o) (hb : h.objs.size ≤ b) : h0.get? b = none := by
  cases e : h0.get? b with
  | none => rfl
  | some o =>
    have : ∃ o, h.get? b = some o := by
      by_cases hm : b ∈ M
      · exact hM b hm
      · exact ⟨o, K b o e hm⟩
    obtain ⟨o', e'⟩ := this
    exact absurd (Heap.lt_size e') (Nat.not_lt.mpr hb)
theorem ne_none {h : Heap} {a b : Addr} {o : Obj} (ha : h.get? a = none) (hb : h.get? b = some o) : a ≠ b := fun e => by rw [e, hb] at ha; cases ha
/-- a ledger of written and of read objects: what is kept -/
theorem HS.kpM {h0 h' : Heap} {A0 : List Addr} {L' : List (Addr × Obj)} {m : Nat} (H : HS h0 h' A0 L' m) (M : List Addr) (hro : ∀ b ∈ A0, b ∈ M ∨ ∃ o, h0.get? b = some o ∧ (b, o) ∈ L') : Kp M h0 h' := fun b o hb hn => by
  by_cases hA : b ∈ A0
  · rcases hro b hA with h | ⟨o', h1, h2⟩
    · exact absurd h hn
    · rw [hb] at h1
      cases h1
      exact H.get _ h2
  · exact H.keep b o hb hA
/-- rows of bits -/
def RowsAre (h : Heap) (rs : List Value) (os : List Int) : Prop := rs.length = os.length ∧ ∀ (i : Nat) (o : Int), os[i]? = some o → ∃ r, rs[i]? = some (.ref r) ∧ 524 ≤ r ∧ RowIs h r o
theorem RowIs.keep {M : List Addr} {h h' : Heap} {r : Addr} {o : Int} (x : RowIs h r o) (K : Kp M h h') (hr : r ∉ M) : RowIs h' r o := by
  obtain ⟨t, n, e⟩ := x
  exact ⟨t, n, K _ _ e hr⟩
/-- rows that are in h and were not in h0 -/
def NewRows (h0 h : Heap) (rs : List Value) (os : List Int) : Prop := rs.length = os.length ∧ ∀ (i : Nat) (o : Int), os[i]? = some o → ∃ r, rs[i]? = some (.ref r) ∧ 524 ≤ r ∧ RowIs h r o ∧ h0.get? r = none
theorem NewRows.nil (h0 h : Heap) : NewRows h0 h [] [] := ⟨rfl, fun i o e => by simp at e⟩
theorem NewRows.keep {M : List Addr} {h0 h h' : Heap} {rs : List Value} {os : List Int} (x : NewRows h0 h rs os) (K : Kp M h h') (hM : ∀ a ∈ M, ∃ o, h0.get? a = some o) : NewRows h0 h' rs os :=
  ⟨x.1, fun i o e => by
    obtain ⟨r, h1, h0, h2, h3⟩ := x.2 i o e
    refine ⟨r, h1, h0, h2.keep K fun hm => ?_, h3⟩
    obtain ⟨o', e'⟩ := hM r hm
    rw [h3] at e'; cases e'⟩
theorem NewRows.push {h0 h : Heap} {rs : List Value} {os : List Int} {r : Addr} {o : Int} (x : NewRows h0 h rs os) (hr : RowIs h r o) (hn : h0.get? r = none) (hf : 524 ≤ r) : NewRows h0 h (rs ++ [.ref r]) (os ++ [o]) :=
  ⟨by simp [x.1], fun i o' e => by
    by_cases hi : i < os.length
    · rw [List.getElem?_append_left hi] at e
      obtain ⟨r', h1, h2⟩ := x.2 i o' e
      exact ⟨r', by rw [List.getElem?_append_left (by rw [x.1]; exact hi)]; exact h1, h2⟩
    · have hi' : i = os.length := by
        have := (List.getElem?_eq_some_iff.mp e).1
        simp at this; omega
      subst hi'
      simp at e
      subst e
      exact ⟨r, by rw [← x.1]; simp, hf, hr, hn⟩⟩
theorem NewRows.rows {h0 h : Heap} {rs : List Value} {os : List Int} (x : NewRows h0 h rs os) : RowsAre h rs os := ⟨x.1, fun i o e => by
  obtain ⟨r, h1, h0, h2, _⟩ := x.2 i o e
  exact ⟨r, h1, h0, h2⟩⟩
end Mine
namespace Mine
theorem nd_fix {ws cs : List Nat} (h : ws.Nodup) (hw : ∀ a ∈ ws, 524 ≤ a) (hc : cs.Nodup := by decide) (hc2 : ∀ a ∈ cs, a < 524 := by decide) : (ws ++ cs).Nodup := by
  rw [List.nodup_append]
  exact ⟨h, hc, fun a ha b hb e => absurd (hc2 b hb) (Nat.not_lt.mpr (e ▸ hw a ha))⟩
end Mine
end

section
open PySem PySem.W PySem.W.X PySem.Builtin PyProof.Rows
set_option maxRecDepth 100000
namespace Mine
section
variable {w : World} {b1 b2 : Bool} {A : Around} {R : Result → Shared → Prop}
theorem rows0_loop (hh : A.handled = none) {I l acc C co L : Addr} {xs : Array Value} {os : List Int} {q : Option Value} {s : Shared} (hx : IntsAre xs.toList os) (hnd : [I, acc, co, C, l].Nodup) (hlo : ∀ a ∈ [I, acc, co, C], 524 ≤ a)
    (F : Fix (pb w.params b1 b2) s.heap) (hit : s.heap.IsListIter I l 0) (hl : s.heap.IsList l xs) (hacc : s.heap.get? acc = some (lstO #[] 0)) (hco : s.heap.get? co = some (cellO q)) (hC : s.heap.get? C = some (dicO #[] 0)) (hz : os.length ≤ 8)
    (hk : ∀ h' tk ys k q', Kp [I, acc, co, C] s.heap h' → h'.get? acc = some (lstO ys k) → NewRows s.heap h' ys.toList os → h'.get? C = some (dicO #[] 0) → h'.get? co = some (cellO q') → R (.ok .next) { s with heap := h', toks := tk }) :
    codeAny (model prg (wb w b1 b2)) A (rows0C I acc C co L) R s := by
  have hlen : xs.size = os.length := by rw [← hx.length]; simp
  have hI : ∃ o, s.heap.get? I = some o := by obtain ⟨o, ho, _⟩ := hit; exact ⟨o, ho⟩
  refine comp_walk (Walks.list hh I l (nd_ne hnd 4 0 rfl rfl) xs) rfl (fun v => rfl)
    (fun i s' => ∃ h' tk ys k q', s' = { s with heap := h', toks := tk } ∧ Kp [I, acc, co, C] s.heap h' ∧ h'.get? acc = some (lstO ys k) ∧ ys.size = i ∧ h'.get? co = some (cellO q') ∧ h'.get? C = some (dicO #[] 0) ∧ NewRows s.heap h' ys.toList (os.take i))
    ?_ ?_ ?_ xs.size 0 s (by simp) (by simp) ⟨hit, hl⟩ ⟨s.heap, s.toks, #[], 0, q, rfl, Kp.refl _ _, hacc, rfl, hco, hC, NewRows.nil _ _⟩
  · rintro i _ h2 tk2 ⟨h1, tk, ys, k, q', rfl, K, e1, e2, e3, e4, e5⟩ hK
    have hIn : ∀ b, b ≠ I → b ∉ [I] := fun b hb => by simpa using hb
    have K2 : Kp [I] h1 h2 := fun b o hb hn => hK b o hn hb
    refine ⟨h2, tk2, ys, k, q', rfl, K.trans (K2.mono fun x hx => by simp at hx; simp [hx]), K2 _ _ e1 (hIn _ (nd_ne hnd 1 0 rfl rfl)), e2, K2 _ _ e3 (hIn _ (nd_ne hnd 2 0 rfl rfl)), K2 _ _ e4 (hIn _ (nd_ne hnd 3 0 rfl rfl)), e5.keep K2 fun a ha => ?_⟩
    rw [List.mem_singleton.mp ha]; exact hI
  · rintro i v _ Q hi hv ⟨hit1, hl1⟩ ⟨h1, tk, ys, k, q', rfl, K, e1, e2, e3, e4, e5⟩ hQ
    obtain ⟨o, t, rfl, ho⟩ := IntsAre.at hx i v (by rw [Array.getElem?_toList]; exact hv)
    have F1 := F.keep K hlo
    refine rows0_body hh (nd_fix (nd_pick hnd [1, 2, 3] (by decide)) (fun a ha => hlo a (by
      have : a ∈ [acc, co, C] := ha
      simp only [List.mem_cons, List.not_mem_nil, or_false] at this ⊢
      rcases this with h | h | h <;> simp [h]))) e1 e3 e4 (F1.get 2) (F1.get 0) (F1.get 3) (Nat.le_trans (by omega : ys.size ≤ 8) (by decide +kernel)) ?_
    intro h' H
    have K3 : Kp [acc, co, C] h1 h' := H.kpM _ fun b hb => by
      have : b ∈ [acc, co, C, 3, 0, 4] := hb
      simp only [List.mem_cons, List.not_mem_nil, or_false] at this
      rcases this with rfl | rfl | rfl | rfl | rfl | rfl
      · simp
      · simp
      · simp
      · exact .inr ⟨_, F1.get 2, by simp⟩
      · exact .inr ⟨_, F1.get 0, by simp⟩
      · exact .inr ⟨_, F1.get 3, by simp⟩
    have hIne : I ∉ [acc, co, C] := nd_out hnd 0 [1, 2, 3] rfl
    have hlne : l ∉ [acc, co, C] := nd_out hnd 4 [1, 2, 3] rfl
    refine hQ _ ⟨hit1.at fun o e => K3 _ _ e hIne, hl1.at fun o e => K3 _ _ e hlne⟩ ⟨h', _, _, _, _, rfl, K.trans (K3.mono fun x hx => by simp at hx ⊢; rcases hx with h | h | h <;> simp [h]), H.at 1 rfl, by simp [e2], H.at 2 rfl, H.at 3 rfl, ?_⟩
    have e6 : (os.take (i + 1)) = os.take i ++ [o] := by rw [List.take_add_one, ho]; rfl
    rw [Array.toList_push, e6]
    have hM : ∀ a ∈ [I, acc, co, C], ∃ o, h1.get? a = some o := fun a ha => by
      simp only [List.mem_cons, List.not_mem_nil, or_false] at ha
      rcases ha with rfl | rfl | rfl | rfl
      · obtain ⟨o, ho, _⟩ := hit1; exact ⟨o, ho⟩
      · exact ⟨_, e1⟩
      · exact ⟨_, e3⟩
      · exact ⟨_, e4⟩
    refine (e5.keep K3 fun a ha => ?_).push ⟨_, _, H.at 0 rfl⟩ (K.fresh hM (by show h1.objs.size ≤ h1.objs.size + 2; omega)) (Nat.le_trans (hlo acc (by simp)) (Nat.le_trans (Nat.le_of_lt (Heap.lt_size e1)) (Nat.le_add_right _ 2)))
    simp only [List.mem_cons, List.not_mem_nil, or_false] at ha
    rcases ha with rfl | rfl | rfl
    · exact ⟨_, hacc⟩
    · exact ⟨_, hco⟩
    · exact ⟨_, hC⟩
  · rintro _ ⟨h1, tk, ys, k, q', rfl, K, e1, e2, e3, e4, e5⟩
    refine hk h1 tk ys k q' K e1 ?_ e4 e3
    rw [hlen, List.take_length] at e5
    exact e5
end
end Mine
end

section
open PySem PySem.W PySem.W.X PySem.Builtin PyProof.Rows
set_option maxRecDepth 100000
namespace Mine
section
variable {prog : Program} {w : World} {A : Around} {R : Result → Shared → Prop}
/-- a comprehension over the enumerated list at l -/
theorem enum_loop (hh : A.handled = none) {En I l acc : Addr} {elt iter : Expr} {elts : List Expr} {ktup : Nat} {ptup : Pos} {sc : Scope} {pos : Pos} {env : Env} {e : Expr} (he : e = .ListComp elt [⟨.Tuple elts ktup ptup, iter, [], 0⟩] sc pos)
    {xs : Array Value} {s : Shared} (M : List Addr) (hEI : En ≠ I) (hlE : l ≠ En) (hlI : l ≠ I) (hEM : En ∉ M) (hIM : I ∉ M) (hlM : l ∉ M) (J : Nat → Heap → Prop)
    (stab : ∀ i h h', J i h → Kp [En, I] h h' → J i h') (alive : ∀ i h, J i h → ∀ a ∈ M, ∃ o, h.get? a = some o)
    (body : ∀ (i : Nat) (x : Value) (tk : Tok) (T : Addr) (d : Option Addr) (n : Nat) (sl : Array (Option Value)) (h : Heap) (tk' : Nat) (Q : Fin → Shared → Prop), xs[i]? = some x →
      h.get? T = some ⟨.type "tuple", d, .seq #[.int i tk, x] n, sl⟩ → s.heap.get? T = none → En < T → T ∉ M → Kp (En :: I :: M) s.heap h → (∀ b, h.objs.size ≤ b → s.heap.get? b = none) → J i h →
      (∀ h'' tk'', Kp (T :: M) h h'' → J (i + 1) h'' → Q (.again (.compLoop e 0 (.ref En) (.ref acc) env)) { s with heap := h'', toks := tk'' }) →
      wpAny (model prog w) A (bodyX (.compLoop e 0 (.ref En) (.ref acc) env) elt (.Tuple elts ktup ptup) (.ref acc) env (.ref T)) Q NoE { s with heap := h, toks := tk' })
    {old : Value} (hE : IsEnum s.heap En I 0 old) (hit : s.heap.IsListIter I l 0) (hl : s.heap.IsList l xs) (hJ : J 0 s.heap)
    (fin : ∀ h' tk, Kp (En :: I :: M) s.heap h' → J xs.size h' → R (.ok .next) { s with heap := h', toks := tk }) :
    codeAny (model prog w) A (.compLoop e 0 (.ref En) (.ref acc) env) R s := by
  have W := WalksT.enumerate (prog := prog) (w := w) hh En I l hEI hlE hlI xs
  refine comp_walkT W he (fun i s' => ∃ h' tk, s' = { s with heap := h', toks := tk } ∧ Kp (En :: I :: M) s.heap h' ∧ J i h') ?_ ?_ ?_ xs.size 0 s (by simp) (by simp) ⟨⟨old, hE⟩, hit, hl⟩ ⟨s.heap, s.toks, rfl, Kp.refl _ _, hJ⟩
  · rintro i _ h2 tk2 ⟨h1, tk, rfl, K, hj⟩ hK
    have K2 : Kp [En, I] h1 h2 := fun b o hb hn => hK b o hn hb
    exact ⟨h2, tk2, rfl, K.trans (K2.mono fun x hx => by simp at hx; rcases hx with h | h <;> simp [h]), stab _ _ _ hj K2⟩
  · rintro i T vals _ s2 Q hi ⟨tk, x, hx, rfl⟩ hT hsz hst ⟨h1, tk1, rfl, K1, hj1⟩ hst2 ⟨h2, tk2, rfl, K2, hj2⟩ hQ
    have hal : ∀ a ∈ En :: I :: M, ∃ o, h1.get? a = some o := fun a ha => by
      rcases List.mem_cons.mp ha with rfl | ha
      · obtain ⟨⟨_, h⟩, _⟩ := hst; exact ⟨_, h⟩
      · rcases List.mem_cons.mp ha with rfl | ha
        · obtain ⟨_, ⟨_, h, _⟩, _⟩ := hst; exact ⟨_, h⟩
        · exact alive _ _ hj1 a ha
    have hTn : s.heap.get? T = none := K1.fresh hal hsz
    have hTa : ∀ a, (∃ o, h1.get? a = some o) → a ≠ T := fun a ⟨o, ho⟩ => Nat.ne_of_lt (Nat.lt_of_lt_of_le (Heap.lt_size ho) hsz)
    have hTM : T ∉ M := fun hm => hTa T (hal T (by simp [hm])) rfl
    obtain ⟨⟨c, d, dt, sl⟩, hT1, hc, n, hd⟩ := hT
    cases hc; cases hd
    have hal2 : ∀ a ∈ En :: I :: M, ∃ o, h2.get? a = some o := fun a ha => by
      rcases List.mem_cons.mp ha with rfl | ha
      · obtain ⟨⟨_, h⟩, _⟩ := hst2; exact ⟨_, h⟩
      · rcases List.mem_cons.mp ha with rfl | ha
        · obtain ⟨_, ⟨_, h, _⟩, _⟩ := hst2; exact ⟨_, h⟩
        · exact alive _ _ hj2 a ha
    have hET : En < T := by
      obtain ⟨o, ho⟩ := hal En (by simp)
      exact Nat.lt_of_lt_of_le (Heap.lt_size ho) hsz
    refine body i x tk T d n sl h2 tk2 Q hx hT1 hTn hET hTM K2 (fun b hb => K2.fresh hal2 hb) hj2 fun h3 tk3 K3 hj3 => ?_
    have hn : ∀ a, a ∉ M → (∃ o, h1.get? a = some o) → a ∉ T :: M := fun a h1 h2 hm => by
      rcases List.mem_cons.mp hm with h | h
      · exact hTa a h2 h
      · exact h1 h
    obtain ⟨⟨old2, hE2⟩, hit2, hl2⟩ := hst2
    refine hQ _ ⟨⟨old2, K3 _ _ hE2 (hn _ hEM (hal _ (by simp)))⟩, hit2.at fun o e => K3 _ _ e (hn _ hIM (hal _ (by simp))), hl2.at fun o e => K3 _ _ e (hn _ hlM ?_)⟩ ⟨h3, tk3, rfl, ?_, hj3⟩
    · obtain ⟨_, _, o, ho, _⟩ := hst; exact ⟨o, ho⟩
    · have K4 : Kp (T :: (En :: I :: M)) s.heap h3 := (K2.mono (fun x hx => List.mem_cons_of_mem _ hx)).trans (K3.mono fun x hx => by
        rcases List.mem_cons.mp hx with h | h <;> simp [h])
      exact K4.drop hTn
  · rintro _ ⟨h1, tk, rfl, K, hj⟩
    exact fin h1 tk K hj
/-- a comprehension over the list at l -/
theorem list_loop (hh : A.handled = none) {I l acc : Addr} {elt target iter : Expr} {sc : Scope} {pos : Pos} {env : Env} {e : Expr} (he : e = .ListComp elt [⟨target, iter, [], 0⟩] sc pos) (hlet : ∀ v, letOwnedTupleGo target (.ref I) v = pure ())
    {xs : Array Value} {s : Shared} (M : List Addr) (hlI : l ≠ I) (hIM : I ∉ M) (hlM : l ∉ M) (J : Nat → Heap → Prop)
    (stab : ∀ i h h', J i h → Kp [I] h h' → J i h') (alive : ∀ i h, J i h → ∀ a ∈ M, ∃ o, h.get? a = some o)
    (body : ∀ (i : Nat) (x : Value) (h : Heap) (tk' : Nat) (Q : Fin → Shared → Prop), xs[i]? = some x → Kp (I :: M) s.heap h → (∀ b, h.objs.size ≤ b → s.heap.get? b = none) → J i h →
      (∀ h'' tk'', Kp M h h'' → J (i + 1) h'' → Q (.again (.compLoop e 0 (.ref I) (.ref acc) env)) { s with heap := h'', toks := tk'' }) →
      wpAny (model prog w) A (bodyX (.compLoop e 0 (.ref I) (.ref acc) env) elt target (.ref acc) env x) Q NoE { s with heap := h, toks := tk' })
    (hit : s.heap.IsListIter I l 0) (hl : s.heap.IsList l xs) (hJ : J 0 s.heap)
    (fin : ∀ h' tk, Kp (I :: M) s.heap h' → J xs.size h' → R (.ok .next) { s with heap := h', toks := tk }) :
    codeAny (model prog w) A (.compLoop e 0 (.ref I) (.ref acc) env) R s := by
  have W := Walks.list (prog := prog) (w := w) hh I l hlI xs
  refine comp_walk W he hlet (fun i s' => ∃ h' tk, s' = { s with heap := h', toks := tk } ∧ Kp (I :: M) s.heap h' ∧ J i h') ?_ ?_ ?_ xs.size 0 s (by simp) (by simp) ⟨hit, hl⟩ ⟨s.heap, s.toks, rfl, Kp.refl _ _, hJ⟩
  · rintro i _ h2 tk2 ⟨h1, tk, rfl, K, hj⟩ hK
    have K2 : Kp [I] h1 h2 := fun b o hb hn => hK b o hn hb
    exact ⟨h2, tk2, rfl, K.trans (K2.mono fun x hx => by simp at hx; simp [hx]), stab _ _ _ hj K2⟩
  · rintro i x _ Q hi hx hst2 ⟨h2, tk2, rfl, K2, hj2⟩ hQ
    have hal : ∀ a ∈ I :: M, ∃ o, h2.get? a = some o := fun a ha => by
      rcases List.mem_cons.mp ha with rfl | ha
      · obtain ⟨⟨_, h, _⟩, _⟩ := hst2; exact ⟨_, h⟩
      · exact alive _ _ hj2 a ha
    refine body i x h2 tk2 Q hx K2 (fun b hb => K2.fresh hal hb) hj2 fun h3 tk3 K3 hj3 => ?_
    exact hQ _ ⟨hst2.1.at fun o e => K3 _ _ e hIM, hst2.2.at fun o e => K3 _ _ e hlM⟩ ⟨h3, tk3, rfl, K2.trans (K3.mono fun x hx => by simp [hx]), hj3⟩
  · rintro _ ⟨h1, tk, rfl, K, hj⟩
    exact fin h1 tk K hj
end
end Mine
end

section
open PySem PySem.W PySem.W.X PySem.Builtin PyProof.Rows
set_option maxRecDepth 100000
namespace Mine
def qk (q : Option (Tok × Value × Tok × Value)) (a : Tok) : Tok := match q with | none => a | some x => x.1
def qb (q : Option (Tok × Value × Tok × Value)) (a : Tok) : Tok := match q with | none => a | some x => x.2.2.1
section
variable {w : World} {b1 b2 : Bool} {A : Around}
abbrev toldRowC (En acc C L : Addr) : Code := .compLoop toldRowE 0 (.ref En) (.ref acc) (inEnv (compScope toldRowE) C L [])
theorem toldRow_body (hh : A.handled = none) {En T acc C L : Addr} {i : Nat} {b : Int} {tk t : Tok} {d : Option Addr} {n : Nat} {sl : Array (Option Value)} {s : Shared} {ys : Array Value} {m : Nat} {q : Option (Tok × Value × Tok × Value)} {Q : Fin → Shared → Prop} {E : Value → Shared → Prop}
    (hnd : [T, C, acc].Nodup) (h1 : s.heap.get? T = some ⟨.type "tuple", d, .seq #[.int i tk, .int b t] n, sl⟩) (h2 : s.heap.get? C = some (D2 (pb w.params b1 b2) "k" "bit" q)) (h3 : s.heap.get? acc = some (lstO ys m))
    (hz : ys.size ≤ sizeLine) (hi : i < 8) (hb : 0 ≤ b ∧ b < 2)
    (hk : ∀ h', HS s.heap h' [T, C, acc] [(C, D2 (pb w.params b1 b2) "k" "bit" (some (qk q s.toks, .int i tk, qb q (s.toks + 1), .int b t))), (acc, lstO (ys.push (.int (b * 2 ^ (7 - (i : Int)).toNat) (s.toks + 6))) (m + 1))] 3 →
      Q (.again (toldRowC En acc C L)) { s with heap := h', toks := s.toks + 7 }) :
    wpAny (model prg (wb w b1 b2)) A (bodyX (toldRowC En acc C L) (compElt toldRowE) (compTarget toldRowE) (.ref acc) (inEnv (compScope toldRowE) C L []) (.ref T)) Q E s := by
  have hm : IntMulOk b (2 ^ (7 - (i : Int)).toNat) := .of_left (by
    have : b = 0 ∨ b = 1 := by omega
    rcases this with rfl | rfl <;> decide)
  refine any_fin hh [(T, ⟨.type "tuple", d, .seq #[.int i tk, .int b t] n, sl⟩), (C, D2 (pb w.params b1 b2) "k" "bit" q), (acc, lstO ys m)] 76 [0, 0, 0, 0, 0, 0, 0, 0, 0, 1, 0, 0, 0, 0, 0, 0, 1, 0, 0, 0, 0, 0, 0, 1, 0, 0, 0, 4, 4, 4, 4, 4, 4, 5] (.again (toldRowC En acc C L)) [4, 5]
    [(C, D2 (pb w.params b1 b2) "k" "bit" (some (qk q s.toks, .int i tk, qb q (s.toks + 1), .int b t))), (acc, lstO (ys.push (.int (b * 2 ^ (7 - (i : Int)).toNat) (s.toks + 6))) (m + 1))] 3 7
    ((Value.type "list" = .type "list" ∧ ys.size ≤ sizeLine) ∧ IntMulOk b (2 ^ (7 - (i : Int)).toNat) ∧ ((2 : Int) = 2 ∧ (0 : Int) ≤ 7 - i ∧ (7 : Int) - i ≤ 8) ∧ True) ?_ hnd (fun _ _ _ _ _ => by rcases q with _ | ⟨t1, v1, t2, v2⟩ <;> cases b2 <;> kernel_rfl) ⟨⟨rfl, hz⟩, hm, ⟨rfl, by omega, by omega⟩, trivial⟩ (by decide) hk
  simp only [List.mem_cons, List.not_mem_nil, or_false, forall_eq_or_imp, forall_eq]
  exact ⟨h1, h2, h3⟩
end
end Mine
end

section
open PySem PySem.W PySem.W.X PySem.Builtin PyProof.Rows
set_option maxRecDepth 100000
namespace Mine
theorem arr8 (ys : Array Value) (f : Nat → Int) (hs : ys.size = 8) (h : ∀ j, j < 8 → ∃ t, ys[j]? = some (.int (f j) t)) :
    ∃ tt : Nat → Tok, ys = #[.int (f 0) (tt 0), .int (f 1) (tt 1), .int (f 2) (tt 2), .int (f 3) (tt 3), .int (f 4) (tt 4), .int (f 5) (tt 5), .int (f 6) (tt 6), .int (f 7) (tt 7)] := by
  have h' : ∃ tt : Nat → Tok, ∀ j, j < 8 → ys[j]? = some (.int (f j) (tt j)) := by
    refine ⟨fun j => if hj : j < 8 then (h j hj).choose else 0, fun j hj => ?_⟩
    simp only [hj, dif_pos]
    exact (h j hj).choose_spec
  obtain ⟨tt, h'⟩ := h'
  refine ⟨tt, Array.ext_getElem? fun i => ?_⟩
  by_cases hi : i < 8
  · rw [h' i hi]
    have : i = 0 ∨ i = 1 ∨ i = 2 ∨ i = 3 ∨ i = 4 ∨ i = 5 ∨ i = 6 ∨ i = 7 := by omega
    rcases this with rfl | rfl | rfl | rfl | rfl | rfl | rfl | rfl <;> rfl
  · rw [Array.getElem?_eq_none (by omega), Array.getElem?_eq_none (by simp; omega)]
/-- the state inside a row's own comprehension -/
def JI (P : Params) (f : Nat → Int) (acc C : Addr) (i : Nat) (h : Heap) : Prop :=
  ∃ ys m q, h.get? acc = some (lstO ys m) ∧ ys.size = i ∧ (∀ j, j < i → ∃ t, ys[j]? = some (.int (f j) t)) ∧ h.get? C = some (D2 P "k" "bit" q) ∧ (i ≠ 0 → ∃ x, q = some x)
theorem JI.keep {P : Params} {f : Nat → Int} {acc C : Addr} {i : Nat} {h h' : Heap} {M : List Addr} (j : JI P f acc C i h) (K : Kp M h h') (h1 : acc ∉ M) (h2 : C ∉ M) : JI P f acc C i h' := by
  obtain ⟨ys, m, q, a, b, c, d, e⟩ := j
  exact ⟨ys, m, q, K _ _ a h1, b, c, K _ _ d h2, e⟩
theorem JI.alive {P : Params} {f : Nat → Int} {acc C : Addr} {i : Nat} {h : Heap} (j : JI P f acc C i h) : ∀ a ∈ [acc, C], ∃ o, h.get? a = some o := by
  obtain ⟨ys, m, q, a, b, c, d, e⟩ := j
  intro x hx
  simp only [List.mem_cons, List.not_mem_nil, or_false] at hx
  rcases hx with rfl | rfl
  · exact ⟨_, a⟩
  · exact ⟨_, d⟩
theorem push_ints {ys : Array Value} {f : Nat → Int} {i : Nat} {z : Int} {t : Tok} (hs : ys.size = i) (h : ∀ j, j < i → ∃ t, ys[j]? = some (.int (f j) t)) (hz : z = f i) : ∀ j, j < i + 1 → ∃ t', (ys.push (.int z t))[j]? = some (.int (f j) t') := by
  intro j hj
  subst hs
  by_cases h1 : j < ys.size
  · obtain ⟨t', e⟩ := h j h1
    exact ⟨t', by rw [Array.getElem?_push_lt h1, ← e, Array.getElem?_eq_getElem h1]⟩
  · have : j = ys.size := by omega
    subst this
    exact ⟨t, by rw [Array.getElem?_push_size, hz]⟩
section
variable {w : World} {b1 b2 : Bool} {A : Around} {R : Result → Shared → Prop}
theorem row_get {b : Nat → Int} {t : Nat → Tok} {i : Nat} {x : Value} (h : #[Value.int (b 0) (t 0), .int (b 1) (t 1), .int (b 2) (t 2), .int (b 3) (t 3), .int (b 4) (t 4), .int (b 5) (t 5), .int (b 6) (t 6), .int (b 7) (t 7)][i]? = some x) : i < 8 ∧ x = .int (b i) (t i) := by
  have hi : i < 8 := by
    by_cases hi : i < 8
    · exact hi
    · rw [Array.getElem?_eq_none (by simp; omega)] at h; cases h
  refine ⟨hi, ?_⟩
  have : i = 0 ∨ i = 1 ∨ i = 2 ∨ i = 3 ∨ i = 4 ∨ i = 5 ∨ i = 6 ∨ i = 7 := by omega
  rcases this with rfl | rfl | rfl | rfl | rfl | rfl | rfl | rfl <;> (simp at h; exact h.symm)
theorem toldRow_loop (hh : A.handled = none) {En I l acc C L : Addr} {b : Nat → Int} {t : Nat → Tok} {n : Nat} {old : Value} {s : Shared} (hnd : [En, I, acc, C, l].Nodup) (hb : ∀ i, 0 ≤ b i ∧ b i < 2)
    (hE : IsEnum s.heap En I 0 old) (hit : s.heap.IsListIter I l 0) (hl : s.heap.get? l = some (rowO b t n)) (hacc : s.heap.get? acc = some (lstO #[] 0)) (hC : s.heap.get? C = some (dicO #[] 0))
    (hk : ∀ h' tk tt m q, Kp [En, I, acc, C] s.heap h' → h'.get? acc = some (rowO (fun i => b i * 2 ^ (7 - (i : Int)).toNat) tt m) → h'.get? C = some (D2 (pb w.params b1 b2) "k" "bit" (some q)) → R (.ok .next) { s with heap := h', toks := tk }) :
    codeAny (model prg (wb w b1 b2)) A (toldRowC En acc C L) R s := by
  have n1 : acc ∉ [En, I] := nd_out hnd 2 [0, 1] rfl
  have n2 : C ∉ [En, I] := nd_out hnd 3 [0, 1] rfl
  refine enum_loop hh rfl (xs := #[.int (b 0) (t 0), .int (b 1) (t 1), .int (b 2) (t 2), .int (b 3) (t 3), .int (b 4) (t 4), .int (b 5) (t 5), .int (b 6) (t 6), .int (b 7) (t 7)]) [acc, C] (nd_ne hnd 0 1 rfl rfl) (nd_ne hnd 4 0 rfl rfl) (nd_ne hnd 4 1 rfl rfl) (nd_out hnd 0 [2, 3] rfl) (nd_out hnd 1 [2, 3] rfl) (nd_out hnd 4 [2, 3] rfl)
    (JI (pb w.params b1 b2) (fun i => b i * 2 ^ (7 - (i : Int)).toNat) acc C) (fun i h h' j K => j.keep K n1 n2) (fun i h j => j.alive) ?_ hE hit ⟨_, hl, rfl, _, rfl⟩ ⟨#[], 0, none, hacc, rfl, fun j hj => absurd hj (Nat.not_lt_zero _), hC, fun h => absurd rfl h⟩ ?_
  · intro i x tk T d n' sl h tk' Q hx hT hTn hET hTM K _ hJ hQ
    obtain ⟨hi, rfl⟩ := row_get hx
    obtain ⟨ys, m, q, e1, e2, e3, e4, _⟩ := hJ
    have hne : C ≠ acc := nd_ne hnd 3 2 rfl rfl
    simp only [List.mem_cons, List.not_mem_nil, or_false, not_or] at hTM
    refine toldRow_body hh (En := En) (s := { s with heap := h, toks := tk' }) (nd3 hTM.2 hTM.1 hne) hT e4 e1 (by rw [e2]; exact Nat.le_trans (Nat.le_of_lt hi) (by decide +kernel)) hi (hb i) ?_
    intro h' H
    refine hQ _ _ (H.kpM _ fun b hb => ?_) ⟨_, _, _, H.at 1 rfl, by rw [Array.size_push, e2], push_ints e2 e3 rfl, H.at 0 rfl, fun _ => ⟨_, rfl⟩⟩
    left
    have : b ∈ [T, C, acc] := hb
    simp only [List.mem_cons, List.not_mem_nil, or_false] at this ⊢
    rcases this with h | h | h <;> simp [h]
  · rintro h' tk K ⟨ys, m, q, e1, e2, e3, e4, e5⟩
    obtain ⟨q, rfl⟩ := e5 (by simp)
    obtain ⟨tt, rfl⟩ := arr8 ys _ e2 e3
    exact hk h' tk tt m q K e1 e4
end
end Mine
end

section
open PySem PySem.W PySem.W.X PySem.Builtin PyProof.Rows
set_option maxRecDepth 100000
namespace Mine
def D1 (P : Params) (k : Str) : Option (Tok × Value) → Obj
  | none => dicO #[] 0
  | some (t, v) => dicO #[ent P k t v] 1
def q1 (q : Option (Tok × Value)) (a : Tok) : Tok := match q with | none => a | some x => x.1
section
variable {w : World} {b1 b2 : Bool} {A : Around} {R : Result → Shared → Prop}
abbrev toldC (I acc C L : Addr) : Code := .compLoop toldE 0 (.ref I) (.ref acc) (inEnv (compScope toldE) C L [])
theorem sum_row {prog : Program} {w : World} {E : Value → Shared → Prop} {Q : Value → Shared → Prop} (hh : A.handled = none) {l : Addr} {f : Nat → Int} {tt : Nat → Tok} {m : Nat} {s : Shared} (hl : s.heap.get? l = some (rowO f tt m)) (hf : ∀ i, i < 8 → 0 ≤ f i ∧ f i < 256)
    (hQ : ∀ h' tk t', Kp [] s.heap h' → Q (.int (preSum f 8) t') { s with heap := h', toks := tk }) : wpAny (model prog w) A (call (.builtin "sum") [.ref l]) Q E s := by
  have hl' : s.heap.IsList l #[.int (f 0) (tt 0), .int (f 1) (tt 1), .int (f 2) (tt 2), .int (f 3) (tt 3), .int (f 4) (tt 4), .int (f 5) (tt 5), .int (f 6) (tt 6), .int (f 7) (tt 7)] := ⟨_, hl, rfl, _, rfl⟩
  refine call_sum_walk (wpAny_pyIter_list hl' ?_)
  have hll : l ≠ s.heap.objs.size := Nat.ne_of_lt (Heap.lt_size hl)
  refine ⟨s.heap.objs.size, _, _, _, _, _, f, rfl, Walks.list (A := A.in1) hh s.heap.objs.size l hll _, ⟨⟨_, Heap.get?_push_size _ rfl, rfl, rfl⟩, hl'.push _⟩, ?_, ?_, ?_, ?_⟩
  · intro b hb
    simp only [List.mem_cons, List.not_mem_nil, or_false] at hb
    show b < (s.heap.push _).objs.size
    rw [Heap.size_push]
    have := Heap.lt_size hl
    rcases hb with rfl | rfl
    · exact Nat.lt_succ_self _
    · exact Nat.lt_succ_of_lt this
  · intro i v hv
    obtain ⟨hi, rfl⟩ := row_get hv
    exact ⟨_, rfl⟩
  · intro j hj
    have hs : ∀ k, k ≤ 8 → 0 ≤ preSum f k ∧ preSum f k ≤ 256 * k := by
      intro k
      induction k with
      | zero => intro _; exact ⟨Int.le_refl _, Int.le_refl _⟩
      | succ k ih =>
        intro hk
        have h1 := ih (by omega)
        have h2 := hf k (by omega)
        unfold preSum
        omega
    have hj' : j < 8 := hj
    have h1 := hf j hj'
    have h2 := hs (j + 1) (by omega)
    unfold InLong
    omega
  · intro h' tk t' hk
    refine hQ h' tk t' fun b o hb _ => hk b o (fun hm => ?_) (Heap.get?_push_of_some _ hb)
    simp only [List.mem_cons, List.not_mem_nil, or_false] at hm
    exact absurd (Heap.lt_size hb) (by rw [hm]; exact Nat.lt_irrefl _)
theorem told_body (hh : A.handled = none) {I r acc C L : Addr} {b : Nat → Int} {t : Nat → Tok} {n : Nat} {s : Shared} {ys : Array Value} {m : Nat} {q : Option (Tok × Value)} {Q : Fin → Shared → Prop} {E : Value → Shared → Prop}
    (hnd : [C, acc, 3, 0, 4, r].Nodup) (h1 : s.heap.get? r = some (rowO b t n)) (h2 : s.heap.get? C = some (D1 (pb w.params b1 b2) "row" q)) (h3 : s.heap.get? acc = some (lstO ys m))
    (F : Fix (pb w.params b1 b2) s.heap) (hz : ys.size ≤ sizeLine) (hb : ∀ i, 0 ≤ b i ∧ b i < 2)
    (hk : ∀ h' tk t1 q', Kp [C, acc] s.heap h' → h'.get? C = some (D1 (pb w.params b1 b2) "row" q') → h'.get? acc = some (lstO (ys.push (.int (preSum (fun i => b i * 2 ^ (7 - (i : Int)).toNat) 8) t1)) (m + 1)) →
      Q (.again (toldC I acc C L)) { s with heap := h', toks := tk }) :
    wpAny (model prg (wb w b1 b2)) A (bodyX (toldC I acc C L) (compElt toldE) (compTarget toldE) (.ref acc) (inEnv (compScope toldE) C L []) (.ref r)) Q E s := by
  have g3 := F.get 2
  have g0 := F.get 0
  have g4 := F.get 3
  refine enter_any hh fun c own below past p hI => ?_
  refine go_again hI [(C, D1 (pb w.params b1 b2) "row" q), (acc, lstO ys m), (3, ob3 (pb w.params b1 b2)), (0, ob0 (pb w.params b1 b2)), (4, ob4 (pb w.params b1 b2)), (r, rowO b t n)] (cond b1 54 64) (cond b1 [0,0,2,3,2,3,0,5,5,5,0,0,0,0,0,0,0,0,0] [0,0,2,3,2,3,0,5,5,5,0,0,0,0,0,0,0,0,0,2,2,2,2])
    (toldRowC (s.heap.objs.size + 1) (s.heap.objs.size + 2) (s.heap.objs.size + 3) L) [0, 1, 2, 3, 4, 5, 6, 7, 8, 9]
    [(s.heap.objs.size + 3, dicO #[] 0), (s.heap.objs.size + 2, lstO #[] 0), (s.heap.objs.size + 1, fldO "enumerate" #[.none, .bool false, .ref s.heap.objs.size, .int 0 0, .none, .none]), (s.heap.objs.size, fldO "list_iterator" #[.ref r, .int 0 0]),
     (C, D1 (pb w.params b1 b2) "row" (some (q1 q s.toks, .ref r))), (acc, lstO ys m), (3, ob3 (pb w.params b1 b2)), (0, ob0 (pb w.params b1 b2)), (4, ob4 (pb w.params b1 b2)), (r, rowO b t n)] 4 1 True ?_ hnd
    (by rcases q with _ | ⟨t1, v1⟩ <;> cases b1 <;> cases b2 <;> kernel_rfl) trivial (by decide) rfl ?_
  · simp only [List.mem_cons, List.not_mem_nil, or_false, forall_eq_or_imp, forall_eq]
    exact ⟨h2, h3, g3, g0, g4, h1⟩
  intro h₁ H A' _ hA'
  have nd : [s.heap.objs.size + 3, s.heap.objs.size + 2, s.heap.objs.size + 1, s.heap.objs.size, C, acc, 3, 0, 4, r].Nodup := H.nd
  refine toldRow_loop hA' (nd_pick nd [2, 3, 1, 0, 9] (by decide)) hb (H.at 2 rfl) ⟨_, H.at 3 rfl, rfl, rfl⟩ (H.at 9 rfl) (H.at 1 rfl) (H.at 0 rfl) ?_
  intro h₂ tk tt m' q' K1 e1 e2
  have kp : ∀ {o} j a, [s.heap.objs.size + 3, s.heap.objs.size + 2, s.heap.objs.size + 1, s.heap.objs.size, C, acc, 3, 0, 4, r][j]? = some a → ([j, 2, 3, 1, 0].Nodup) → h₁.get? a = some o → h₂.get? a = some o := fun j a e1 e2 e3 => K1 _ _ e3 (nd_out nd j [2, 3, 1, 0] e1 e2)
  refine go_callV hI [(C, D1 (pb w.params b1 b2) "row" (some (q1 q s.toks, .ref r))), (acc, lstO ys m), (s.heap.objs.size + 3, D2 (pb w.params b1 b2) "k" "bit" (some q')), (s.heap.objs.size + 2, rowO (fun i => b i * 2 ^ (7 - (i : Int)).toNat) tt m')] 11 [2,2,2,2,2,2]
    (.builtin "sum") [.ref (s.heap.objs.size + 2)] [0, 1, 3]
    [(C, D1 (pb w.params b1 b2) "row" (some (q1 q s.toks, .ref r))), (acc, lstO ys m), (s.heap.objs.size + 2, rowO (fun i => b i * 2 ^ (7 - (i : Int)).toNat) tt m')] 0 0 True ?_ (nd_pick nd [4, 5, 0, 1] (by decide))
    (by rcases q with _ | ⟨t1, v1⟩ <;> obtain ⟨t1', v1', t2', v2'⟩ := q' <;> cases b1 <;> cases b2 <;> kernel_rfl) trivial (by decide) ?_
  · simp only [List.mem_cons, List.not_mem_nil, or_false, forall_eq_or_imp, forall_eq]
    exact ⟨kp 4 _ rfl (by decide) (H.at 4 rfl), kp 5 _ rfl (by decide) (H.at 5 rfl), e2, e1⟩
  intro h₃ H3 A3 _ hA3
  refine sum_row hA3 (H3.at 2 rfl) (fun i hi => ?_) fun h₄ tk4 t4 K4 => ?_
  · have := hb i
    have e : b i = 0 ∨ b i = 1 := by omega
    have hi' : i = 0 ∨ i = 1 ∨ i = 2 ∨ i = 3 ∨ i = 4 ∨ i = 5 ∨ i = 6 ∨ i = 7 := by omega
    show 0 ≤ b i * 2 ^ (7 - (i : Int)).toNat ∧ b i * 2 ^ (7 - (i : Int)).toNat < 256
    rcases e with e | e <;> rw [e] <;> rcases hi' with rfl | rfl | rfl | rfl | rfl | rfl | rfl | rfl <;> decide
  refine go_fin [(C, D1 (pb w.params b1 b2) "row" (some (q1 q s.toks, .ref r))), (acc, lstO ys m)] 2 [1]
    (.pure (.again (toldC I acc C L))) [0, 1]
    [(C, D1 (pb w.params b1 b2) "row" (some (q1 q s.toks, .ref r))), (acc, lstO (ys.push (.int (preSum (fun i => b i * 2 ^ (7 - (i : Int)).toNat) 8) t4)) (m + 1))] 0 0 ((Value.type "list" = .type "list" ∧ ys.size ≤ sizeLine) ∧ True) ?_ (nd_pick nd [4, 5] (by decide))
    (by rcases q with _ | ⟨t1, v1⟩ <;> obtain ⟨t1', v1', t2', v2'⟩ := q' <;> cases b1 <;> cases b2 <;> kernel_rfl) ⟨⟨rfl, hz⟩, trivial⟩ (by decide) ?_
  · simp only [List.mem_cons, List.not_mem_nil, or_false, forall_eq_or_imp, forall_eq]
    exact ⟨K4 _ _ (H3.at 0 rfl) (by simp), K4 _ _ (H3.at 1 rfl) (by simp)⟩
  intro h₅ p' H5
  have K : Kp [s.heap.objs.size + 1, s.heap.objs.size, s.heap.objs.size + 2, s.heap.objs.size + 3, C, acc] s.heap h₅ := by
    refine ((H.kpM [C, acc] fun b hb => ?_).mono fun x hx => ?_).trans ((K1.mono fun x hx => ?_).trans (((H3.kpM [C, acc, s.heap.objs.size + 3, s.heap.objs.size + 2] fun b hb => .inl hb).mono fun x hx => ?_).trans ((K4.mono fun x hx => ?_).trans ((H5.kpM [C, acc] fun b hb => .inl hb).mono fun x hx => ?_))))
    · have : b ∈ [C, acc, 3, 0, 4, r] := hb
      simp only [List.mem_cons, List.not_mem_nil, or_false] at this
      rcases this with rfl | rfl | rfl | rfl | rfl | rfl
      · simp
      · simp
      · exact .inr ⟨_, g3, by simp⟩
      · exact .inr ⟨_, g0, by simp⟩
      · exact .inr ⟨_, g4, by simp⟩
      · exact .inr ⟨_, h1, by simp⟩
    all_goals
      simp only [List.mem_cons, List.not_mem_nil, or_false] at hx ⊢ <;> first | omega | grind
  refine base_done' (hk h₅ _ _ _ ?_ (H5.at 0 rfl) (H5.at 1 rfl))
  exact (((K.drop (none_of_ge (by omega))).drop (none_of_ge (by omega))).drop (none_of_ge (by omega))).drop (none_of_ge (by omega))
end
end Mine
end

section
open PySem PySem.W PySem.W.X PySem.Builtin PyProof.Rows
set_option maxRecDepth 100000
namespace Mine
theorem octet_all {p : Int → Prop} (h : ∀ n : _root_.Fin 256, p (n.val : Int)) : ∀ o : Int, 0 ≤ o → o < 256 → p o := by
  intro o h0 h1
  obtain ⟨n, rfl⟩ := Int.eq_ofNat_of_zero_le h0
  exact h ⟨n, by omega⟩
theorem octet_sum : ∀ o : Int, 0 ≤ o → o < 256 → preSum (fun i => bitI o i * 2 ^ (7 - (i : Int)).toNat) 8 = o := octet_all (by decide +kernel)
theorem bitI_lt (o : Int) (i : Nat) : 0 ≤ bitI o i ∧ bitI o i < 2 := by
  unfold bitI
  exact ⟨Int.fmod_nonneg_of_pos _ (by decide), Int.fmod_lt_of_pos _ (by decide)⟩
theorem intsAre_of : ∀ (vs : List Value) (ns : List Int), vs.length = ns.length → (∀ (j : Nat) (n : Int), ns[j]? = some n → ∃ t, vs[j]? = some (.int n t)) → IntsAre vs ns
  | [], [], _, _ => .nil
  | [], _ :: _, h, _ => by cases h
  | _ :: _, [], h, _ => by cases h
  | v :: vs, n :: ns, h, hj => by
    obtain ⟨t, e⟩ := hj 0 n rfl
    have : v = .int n t := by simpa using e
    subst this
    exact .cons _ _ (intsAre_of vs ns (by simpa using h) fun j m hm => hj (j + 1) m (by simpa using hm))
/-- ints so far -/
def Sofar (ys : Array Value) (i : Nat) (f : Nat → Int) : Prop := ys.size = i ∧ ∀ j, j < i → ∃ t, ys[j]? = some (.int (f j) t)
theorem Sofar.ints {ys : Array Value} {os : List Int} (h : Sofar ys os.length (fun j => os.getD j 0)) : IntsAre ys.toList os := by
  refine intsAre_of _ _ (by simpa using h.1) fun j n e => ?_
  have hj := (List.getElem?_eq_some_iff.mp e).1
  obtain ⟨t, ht⟩ := h.2 j hj
  refine ⟨t, ?_⟩
  rw [Array.getElem?_toList, ht]
  simp [e]
section
variable {w : World} {b1 b2 : Bool} {A : Around} {R : Result → Shared → Prop}
theorem told_loop (hh : A.handled = none) {I l acc C L : Addr} {xs : Array Value} {os : List Int} {s : Shared} (hnd : [I, acc, C, l].Nodup) (hlo : ∀ a ∈ [I, acc, C], 524 ≤ a) (F : Fix (pb w.params b1 b2) s.heap)
    (hr : RowsAre s.heap xs.toList os) (hrn : ∀ (i : Nat) r, xs[i]? = some (.ref r) → r ∉ [I, acc, C]) (hos : os.length ≤ 8) (hoct : ∀ o ∈ os, 0 ≤ o ∧ o < 256)
    (hit : s.heap.IsListIter I l 0) (hl : s.heap.IsList l xs) (hacc : s.heap.get? acc = some (lstO #[] 0)) (hC : s.heap.get? C = some (dicO #[] 0))
    (hk : ∀ h' tk ys k q, Kp [I, acc, C] s.heap h' → h'.get? acc = some (lstO ys k) → IntsAre ys.toList os → h'.get? C = some (D1 (pb w.params b1 b2) "row" q) → R (.ok .next) { s with heap := h', toks := tk }) :
    codeAny (model prg (wb w b1 b2)) A (toldC I acc C L) R s := by
  have hsz : xs.size = os.length := by have := hr.1; simpa using this
  have n1 : acc ∉ [I] := nd_out hnd 1 [0] rfl
  have n2 : C ∉ [I] := nd_out hnd 2 [0] rfl
  refine list_loop hh rfl (fun v => rfl) (xs := xs) [acc, C] (nd_ne hnd 3 0 rfl rfl) (nd_out hnd 0 [1, 2] rfl) (nd_out hnd 3 [1, 2] rfl)
    (fun i h => ∃ ys m q, h.get? acc = some (lstO ys m) ∧ Sofar ys i (fun j => os.getD j 0) ∧ h.get? C = some (D1 (pb w.params b1 b2) "row" q)) ?_ ?_ ?_ hit hl ⟨#[], 0, none, hacc, ⟨rfl, fun j hj => absurd hj (Nat.not_lt_zero _)⟩, hC⟩ ?_
  · rintro i h h' ⟨ys, m, q, e1, e2, e3⟩ K
    exact ⟨ys, m, q, K _ _ e1 n1, e2, K _ _ e3 n2⟩
  · rintro i h ⟨ys, m, q, e1, e2, e3⟩ a ha
    simp only [List.mem_cons, List.not_mem_nil, or_false] at ha
    rcases ha with rfl | rfl
    · exact ⟨_, e1⟩
    · exact ⟨_, e3⟩
  · rintro i x h tk' Q hx K _ ⟨ys, m, q, e1, e2, e3⟩ hQ
    have hi : i < os.length := by rw [← hsz]; exact (Array.getElem?_eq_some_iff.mp hx).1
    obtain ⟨r, h1, h5, t, n, h2⟩ := hr.2 i os[i] (List.getElem?_eq_getElem hi)
    rw [Array.getElem?_toList, hx] at h1
    cases h1
    have hr' := hrn i r hx
    have hr2 : r ∉ [C, acc] := fun hm => hr' (by simp only [List.mem_cons, List.not_mem_nil, or_false] at hm ⊢; rcases hm with h | h <;> simp [h])
    have hnd' : [C, acc, 3, 0, 4, r].Nodup := by
      have hx : ([C, acc, r] ++ [3, 0, 4]).Nodup := nd_fix (nd3 (nd_ne hnd 2 1 rfl rfl) (fun e => hr2 (by simp [e])) (fun e => hr2 (by simp [e]))) (fun a ha => by
        simp only [List.mem_cons, List.not_mem_nil, or_false] at ha
        rcases ha with rfl | rfl | rfl
        · exact hlo _ (by simp)
        · exact hlo _ (by simp)
        · exact h5)
      exact nd_pick hx [0, 1, 3, 4, 5, 2] (by decide)
    have ho := hoct os[i] (List.getElem_mem hi)
    refine told_body hh (I := I) (s := { s with heap := h, toks := tk' }) hnd' (K _ _ h2 hr') e3 e1 (F.keep K hlo) (by rw [e2.1]; exact Nat.le_trans (by omega : i ≤ 8) (by decide +kernel)) (bitI_lt _) ?_
    intro h' tk t1 q' K' g1 g2
    refine hQ h' tk (K'.mono fun x hx => by simp only [List.mem_cons, List.not_mem_nil, or_false] at hx ⊢; rcases hx with h | h <;> simp [h]) ⟨_, _, q', g2, ⟨by rw [Array.size_push, e2.1], push_ints e2.1 e2.2 ?_⟩, g1⟩
    rw [octet_sum _ ho.1 ho.2, List.getD_eq_getElem?_getD, List.getElem?_eq_getElem hi]
    rfl
  · rintro h' tk K ⟨ys, m, q, e1, e2, e3⟩
    rw [hsz] at e2
    exact hk h' tk ys m q K e1 e2.ints e3
end
end Mine
end

section
open PySem PySem.W PySem.W.X PySem.Builtin PyProof.Rows
set_option maxRecDepth 100000
namespace Mine
def kArr (ks : List (Int × Tok)) : Array Value := (ks.map fun p => .int p.1 p.2).toArray
theorem kArr_get {ks : List (Int × Tok)} {i : Int} (h0 : 0 ≤ i) (h1 : i < ks.length) : (kArr ks)[i.toNat]? = some (.int (valI (kArr ks) i) (tokI (kArr ks) i)) := by
  have hlt : i.toNat < ks.length := by omega
  have e : (kArr ks)[i.toNat]? = some (.int (ks[i.toNat]).1 (ks[i.toNat]).2) := by
    unfold kArr
    rw [List.getElem?_toArray, List.getElem?_map, List.getElem?_eq_getElem hlt]
    rfl
  unfold valI tokI
  rw [e]
theorem kArr_val {ks : List (Int × Tok)} {i : Int} (h0 : 0 ≤ i) (h1 : i < ks.length) : valI (kArr ks) i = (ks.map (·.1)).getD i.toNat 0 := by
  have hlt : i.toNat < ks.length := by omega
  unfold valI kArr
  rw [List.getElem?_toArray, List.getElem?_map, List.getElem?_eq_getElem hlt, List.getD_eq_getElem?_getD, List.getElem?_map, List.getElem?_eq_getElem hlt]
  rfl
theorem i8 (i : Nat) (hi : i < 8) : 0 < (2 : Int) ^ (7 - (i : Int)).toNat ∧ (2 : Int) ^ (7 - (i : Int)).toNat ≤ 128 := by
  have : i = 0 ∨ i = 1 ∨ i = 2 ∨ i = 3 ∨ i = 4 ∨ i = 5 ∨ i = 6 ∨ i = 7 := by omega
  rcases this with rfl | rfl | rfl | rfl | rfl | rfl | rfl | rfl <;> decide
section
variable {w : World} {b1 b2 : Bool} {A : Around} {R : Result → Shared → Prop}
abbrev xrowSc : Scope := relab (compScope xrowE) ["key", "j"]
abbrev xrowC (En acc C cj L : Addr) : Code := .compLoop xrowE 0 (.ref En) (.ref acc) (inEnv xrowSc C L [("key", 527), ("j", cj)])
noncomputable def xbit (ks : List (Int × Tok)) (j : Nat) (b : Nat → Int) (i : Nat) : Int := Int.fmod (b i + Int.fdiv (valI (kArr ks) (Int.fmod j ks.length)) (2 ^ (7 - (i : Int)).toNat)) 2
theorem xrow_body (hh : A.handled = none) {En T acc C cj kl L : Addr} {i j : Nat} {b : Nat → Int} {tk t tj : Tok} {d : Option Addr} {n nk : Nat} {sl : Array (Option Value)} {s : Shared} {ys : Array Value} {m : Nat} {ks : List (Int × Tok)} {q : Option (Tok × Value × Tok × Value)} {Q : Fin → Shared → Prop} {E : Value → Shared → Prop}
    (hnd : [T, C, acc, 527, cj, kl, 3, 0].Nodup) (h1 : s.heap.get? T = some ⟨.type "tuple", d, .seq #[.int i tk, .int (b i) t] n, sl⟩) (h2 : s.heap.get? C = some (D2 (pb w.params b1 b2) "k" "bit" q)) (h3 : s.heap.get? acc = some (lstO ys m))
    (h4 : s.heap.get? 527 = some (cellO (some (.ref kl)))) (h5 : s.heap.get? cj = some (cellO (some (.int j tj)))) (h6 : s.heap.get? kl = some (lstO (kArr ks) nk)) (g3 : s.heap.get? 3 = some (ob3 (pb w.params b1 b2))) (g0 : s.heap.get? 0 = some (ob0 (pb w.params b1 b2)))
    (hz : ys.size ≤ sizeLine) (hi : i < 8) (hk0 : ks ≠ []) (hk5 : ks.length ≤ 5)
    (hk : ∀ h', HS s.heap h' [T, C, acc, 527, cj, kl, 3, 0] [(C, D2 (pb w.params b1 b2) "k" "bit" (some (qk q s.toks, .int i tk, qb q (s.toks + 1), .int (b i) t))), (acc, lstO (ys.push (.int (xbit ks j b i) (s.toks + 12))) (m + 1)),
        (527, cellO (some (.ref kl))), (cj, cellO (some (.int j tj))), (kl, lstO (kArr ks) nk), (3, ob3 (pb w.params b1 b2)), (0, ob0 (pb w.params b1 b2))] 3 →
      Q (.again (xrowC En acc C cj L)) { s with heap := h', toks := s.toks + 13 }) :
    wpAny (model prg (wb w b1 b2)) A (bodyX (xrowC En acc C cj L) (compElt xrowE) (compTarget xrowE) (.ref acc) (inEnv xrowSc C L [("key", 527), ("j", cj)]) (.ref T)) Q E s := by
  have hpos : (0 : Int) < ks.length := by
    have := List.length_pos_iff.mpr hk0
    omega
  have hf0 := Int.fmod_nonneg_of_pos (j : Int) hpos
  have hf1 := Int.fmod_lt_of_pos (j : Int) hpos
  refine any_fin hh [(T, ⟨.type "tuple", d, .seq #[.int i tk, .int (b i) t] n, sl⟩), (C, D2 (pb w.params b1 b2) "k" "bit" q), (acc, lstO ys m), (527, cellO (some (.ref kl))), (cj, cellO (some (.int j tj))), (kl, lstO (kArr ks) nk), (3, ob3 (pb w.params b1 b2)), (0, ob0 (pb w.params b1 b2))] 120 [0,0,0,0,0,0,0,0,0,1,0,0,0,0,0,0,1,0,0,0,0,0,0,1,0,0,0,4,4,4,4,4,6,7,9,10,6,8,8,8,8,8,8,8,4,5] (.again (xrowC En acc C cj L)) [4, 5, 6, 7, 8, 9, 10]
    [(C, D2 (pb w.params b1 b2) "k" "bit" (some (qk q s.toks, .int i tk, qb q (s.toks + 1), .int (b i) t))), (acc, lstO (ys.push (.int (xbit ks j b i) (s.toks + 12))) (m + 1)),
        (527, cellO (some (.ref kl))), (cj, cellO (some (.int j tj))), (kl, lstO (kArr ks) nk), (3, ob3 (pb w.params b1 b2)), (0, ob0 (pb w.params b1 b2))] 3 13
    ((Value.type "list" = .type "list" ∧ ys.size ≤ sizeLine) ∧ ((2 : Int) ^ (7 - (i : Int)).toNat ≠ 0 ∧ Builtin.divisionGoesByPylong (valI (kArr ks) (Int.fmod j ks.length)) ((2 : Int) ^ (7 - (i : Int)).toNat) = false) ∧ ((2 : Int) = 2 ∧ (0 : Int) ≤ 7 - i ∧ (7 : Int) - i ≤ 8) ∧ (Value.type "list" = .type "list" ∧ 0 ≤ Int.fmod j ks.length ∧ Int.fmod j ks.length ≤ 1000 ∧ (kArr ks)[(Int.fmod j ks.length).toNat]? = some (.int (valI (kArr ks) (Int.fmod j ks.length)) (tokI (kArr ks) (Int.fmod j ks.length)))) ∧ True) ?_ hnd
    (fun _ _ _ _ _ => by
      rcases ks with _ | ⟨p1, _ | ⟨p2, _ | ⟨p3, _ | ⟨p4, _ | ⟨p5, _ | ⟨p6, ks⟩⟩⟩⟩⟩⟩
      · exact absurd rfl hk0
      iterate 5 (clear hf0 hf1 hpos hk; rcases q with _ | ⟨t1, v1, t2, v2⟩ <;> cases b2 <;> kernel_rfl)
      · simp only [List.length_cons] at hk5; omega) ⟨⟨rfl, hz⟩, ⟨by have := i8 i hi; omega, pyl _ _ (by have := i8 i hi; omega)⟩, ⟨rfl, by omega, by omega⟩, ⟨rfl, hf0, by omega, kArr_get hf0 hf1⟩, trivial⟩ (by decide) hk
  simp only [List.mem_cons, List.not_mem_nil, or_false, forall_eq_or_imp, forall_eq]
  exact ⟨h1, h2, h3, h4, h5, h6, g3, g0⟩
end
end Mine
end

section
open PySem PySem.W PySem.W.X PySem.Builtin PyProof.Rows
set_option maxRecDepth 100000
namespace Mine
section
variable {w : World} {b1 b2 : Bool} {A : Around} {R : Result → Shared → Prop}
theorem xrow_loop (hh : A.handled = none) {En I l acc C cj kl L : Addr} {j : Nat} {tj : Tok} {ks : List (Int × Tok)} {b : Nat → Int} {t : Nat → Tok} {n nk : Nat} {old : Value} {s : Shared} (hnd : [En, I, acc, C, l, 527, cj, kl].Nodup) (hlo : ∀ a ∈ [En, I, acc, C, 527, cj, kl], 524 ≤ a)
    (hE : IsEnum s.heap En I 0 old) (hit : s.heap.IsListIter I l 0) (hl : s.heap.get? l = some (rowO b t n)) (hacc : s.heap.get? acc = some (lstO #[] 0)) (hC : s.heap.get? C = some (dicO #[] 0))
    (h4 : s.heap.get? 527 = some (cellO (some (.ref kl)))) (h5 : s.heap.get? cj = some (cellO (some (.int j tj)))) (h6 : s.heap.get? kl = some (lstO (kArr ks) nk)) (F : Fix (pb w.params b1 b2) s.heap) (hk0 : ks ≠ []) (hk5 : ks.length ≤ 5)
    (hk : ∀ h' tk tt m q, Kp [En, I, acc, C] s.heap h' → h'.get? acc = some (rowO (xbit ks j b) tt m) → h'.get? C = some (D2 (pb w.params b1 b2) "k" "bit" (some q)) → R (.ok .next) { s with heap := h', toks := tk }) :
    codeAny (model prg (wb w b1 b2)) A (xrowC En acc C cj L) R s := by
  have n1 : acc ∉ [En, I] := nd_out hnd 2 [0, 1] rfl
  have n2 : C ∉ [En, I] := nd_out hnd 3 [0, 1] rfl
  have hM4 : ∀ a ∈ [En, I, acc, C], 524 ≤ a := fun a ha => hlo a (by simp only [List.mem_cons, List.not_mem_nil, or_false] at ha ⊢; rcases ha with h | h | h | h <;> simp [h])
  refine enum_loop hh rfl (xs := #[.int (b 0) (t 0), .int (b 1) (t 1), .int (b 2) (t 2), .int (b 3) (t 3), .int (b 4) (t 4), .int (b 5) (t 5), .int (b 6) (t 6), .int (b 7) (t 7)]) [acc, C] (nd_ne hnd 0 1 rfl rfl) (nd_ne hnd 4 0 rfl rfl) (nd_ne hnd 4 1 rfl rfl) (nd_out hnd 0 [2, 3] rfl) (nd_out hnd 1 [2, 3] rfl) (nd_out hnd 4 [2, 3] rfl)
    (JI (pb w.params b1 b2) (xbit ks j b) acc C) (fun i h h' j K => j.keep K n1 n2) (fun i h j => j.alive) ?_ hE hit ⟨_, hl, rfl, _, rfl⟩ ⟨#[], 0, none, hacc, rfl, fun j hj => absurd hj (Nat.not_lt_zero _), hC, fun h => absurd rfl h⟩ ?_
  · intro i x tk T d n' sl h tk' Q hx hT hTn hET hTM K _ hJ hQ
    obtain ⟨hi, rfl⟩ := row_get hx
    obtain ⟨ys, m, q, e1, e2, e3, e4, _⟩ := hJ
    have F1 := F.keep K hM4
    have hd : ([C, acc, 527, cj, kl] ++ [3, 0] : List Nat).Nodup := nd_fix (nd_pick hnd [3, 2, 5, 6, 7] (by decide)) (fun a ha => hlo a (by
      have : a ∈ [C, acc, 527, cj, kl] := ha
      simp only [List.mem_cons, List.not_mem_nil, or_false] at this ⊢
      rcases this with h | h | h | h | h <;> simp [h]))
    have g3 := F.get 2
    have g0 := F.get 0
    have hTall : T ∉ [C, acc, 527, cj, kl, 3, 0] := by
      simp only [List.mem_cons, List.not_mem_nil, or_false, not_or] at hTM ⊢
      exact ⟨hTM.2, hTM.1, ne_none hTn h4, ne_none hTn h5, ne_none hTn h6, ne_none hTn g3, ne_none hTn g0⟩
    refine xrow_body hh (En := En) (L := L) (s := { s with heap := h, toks := tk' }) (List.nodup_cons.mpr ⟨hTall, hd⟩) hT e4 e1 (K _ _ h4 (nd_out hnd 5 [0, 1, 2, 3] rfl)) (K _ _ h5 (nd_out hnd 6 [0, 1, 2, 3] rfl)) (K _ _ h6 (nd_out hnd 7 [0, 1, 2, 3] rfl)) (F1.get 2) (F1.get 0)
      (by rw [e2]; exact Nat.le_trans (Nat.le_of_lt hi) (by decide +kernel)) hi hk0 hk5 ?_
    intro h' H
    refine hQ _ _ (H.kpM _ fun b hb => ?_) ⟨_, _, _, H.at 1 rfl, by rw [Array.size_push, e2], push_ints e2 e3 rfl, H.at 0 rfl, fun _ => ⟨_, rfl⟩⟩
    have : b ∈ [T, C, acc, 527, cj, kl, 3, 0] := hb
    simp only [List.mem_cons, List.not_mem_nil, or_false] at this
    rcases this with rfl | rfl | rfl | rfl | rfl | rfl | rfl | rfl
    · simp
    · simp
    · simp
    · exact .inr ⟨_, K _ _ h4 (nd_out hnd 5 [0, 1, 2, 3] rfl), by simp⟩
    · exact .inr ⟨_, K _ _ h5 (nd_out hnd 6 [0, 1, 2, 3] rfl), by simp⟩
    · exact .inr ⟨_, K _ _ h6 (nd_out hnd 7 [0, 1, 2, 3] rfl), by simp⟩
    · exact .inr ⟨_, F1.get 2, by simp⟩
    · exact .inr ⟨_, F1.get 0, by simp⟩
  · rintro h' tk K ⟨ys, m, q, e1, e2, e3, e4, e5⟩
    obtain ⟨q, rfl⟩ := e5 (by simp)
    obtain ⟨tt, rfl⟩ := arr8 ys _ e2 e3
    exact hk h' tk tt m q K e1 e4

abbrev xrowsSc : Scope := relab (compScope xrowsE) ["key"]
abbrev xrowsC (En acc C cj L : Addr) : Code := .compLoop xrowsE 0 (.ref En) (.ref acc) (inEnv xrowsSc C L [("j", cj), ("key", 527)])
theorem xrows_body (hh : A.handled = none) {En T r acc C cj kl L : Addr} {j : Nat} {tj : Tok} {ks : List (Int × Tok)} {b : Nat → Int} {t : Nat → Tok} {d : Option Addr} {n n' nk : Nat} {sl : Array (Option Value)} {s : Shared} {ys : Array Value} {m : Nat} {q : Option (Tok × Value)} {q2 : Option Value} {Q : Fin → Shared → Prop} {E : Value → Shared → Prop}
    (hnd : [T, C, acc, cj, r, 527, kl].Nodup) (hlo : ∀ a ∈ [T, C, acc, cj, r, 527, kl], 524 ≤ a) (hT : s.heap.get? T = some ⟨.type "tuple", d, .seq #[.int j tj, .ref r] n', sl⟩) (h1 : s.heap.get? r = some (rowO b t n)) (h2 : s.heap.get? C = some (D1 (pb w.params b1 b2) "row" q)) (h3 : s.heap.get? acc = some (lstO ys m))
    (h4 : s.heap.get? 527 = some (cellO (some (.ref kl)))) (h5 : s.heap.get? cj = some (cellO q2)) (h6 : s.heap.get? kl = some (lstO (kArr ks) nk))
    (F : Fix (pb w.params b1 b2) s.heap) (hz : ys.size ≤ sizeLine) (hk0 : ks ≠ []) (hk5 : ks.length ≤ 5)
    (hk : ∀ h' tk r' t1 n' q', Kp [C, acc, cj] s.heap h' → h'.get? C = some (D1 (pb w.params b1 b2) "row" q') → h'.get? acc = some (lstO (ys.push (.ref r')) (m + 1)) → h'.get? cj = some (cellO (some (.int j tj))) → h'.get? r' = some (rowO (xbit ks j b) t1 n') → s.heap.objs.size ≤ r' → 524 ≤ r' →
      Q (.again (xrowsC En acc C cj L)) { s with heap := h', toks := tk }) :
    wpAny (model prg (wb w b1 b2)) A (bodyX (xrowsC En acc C cj L) (compElt xrowsE) (compTarget xrowsE) (.ref acc) (inEnv xrowsSc C L [("j", cj), ("key", 527)]) (.ref T)) Q E s := by
  have g3 := F.get 2
  have g0 := F.get 0
  have g4 := F.get 3
  have hnd0 : [T, C, acc, cj, 3, 0, 4, r].Nodup := nd_pick (nd_fix (cs := [3, 0, 4]) hnd hlo) [0, 1, 2, 3, 7, 8, 9, 4] (by decide)
  refine enter_any hh fun c own below past p hI => ?_
  refine go_again hI [(T, ⟨.type "tuple", d, .seq #[.int j tj, .ref r] n', sl⟩), (C, D1 (pb w.params b1 b2) "row" q), (acc, lstO ys m), (cj, cellO q2), (3, ob3 (pb w.params b1 b2)), (0, ob0 (pb w.params b1 b2)), (4, ob4 (pb w.params b1 b2)), (r, rowO b t n)] (cond b1 102 112) (cond b1 [0,0,0,0,0,0,0,0,0,1,0,0,0,0,0,0,1,0,0,0,0,0,0,1,0,0,0,6,6,4,4,7,8,4,10,10,10,0,0,0,0,0,0,0,0,0] [0,0,0,0,0,0,0,0,0,1,0,0,0,0,0,0,1,0,0,0,0,0,0,1,0,0,0,6,6,4,4,7,8,4,10,10,10,0,0,0,0,0,0,0,0,0,2,2,2,2])
    (xrowC (s.heap.objs.size + 4) (s.heap.objs.size + 5) (s.heap.objs.size + 6) cj L) [0, 1, 2, 3, 8, 9, 10, 11, 12, 13, 14, 7]
    [(s.heap.objs.size + 6, dicO #[] 0), (s.heap.objs.size + 5, lstO #[] 0), (s.heap.objs.size + 4, fldO "enumerate" #[.none, .bool false, .ref (s.heap.objs.size + 3), .int 0 0, .none, .none]), (s.heap.objs.size + 3, fldO "list_iterator" #[.ref r, .int 0 0]),
     (C, D1 (pb w.params b1 b2) "row" (some (q1 q s.toks, .ref r))), (acc, lstO ys m), (cj, cellO (some (.int j tj))), (3, ob3 (pb w.params b1 b2)), (0, ob0 (pb w.params b1 b2)), (4, ob4 (pb w.params b1 b2)), (r, rowO b t n), (T, ⟨.type "tuple", d, .seq #[.int j tj, .ref r] n', sl⟩)] 7 1 True ?_ hnd0
    (by clear hk; rcases q with _ | ⟨t1, v1⟩ <;> rcases q2 with _ | v2 <;> cases b1 <;> cases b2 <;> kernel_rfl) trivial (by decide) rfl ?_
  · simp only [List.mem_cons, List.not_mem_nil, or_false, forall_eq_or_imp, forall_eq]
    exact ⟨hT, h2, h3, h5, g3, g0, g4, h1⟩
  intro h₁ H A' _ hA'
  have nd : [s.heap.objs.size + 6, s.heap.objs.size + 5, s.heap.objs.size + 4, s.heap.objs.size + 3, C, acc, cj, 3, 0, 4, r, T].Nodup := H.nd
  have K0 : Kp [C, acc, cj] s.heap h₁ := H.kpM _ fun b hb => by
    have : b ∈ [T, C, acc, cj, 3, 0, 4, r] := hb
    simp only [List.mem_cons, List.not_mem_nil, or_false] at this
    rcases this with rfl | rfl | rfl | rfl | rfl | rfl | rfl | rfl
    · exact .inr ⟨_, hT, by simp⟩
    · simp
    · simp
    · simp
    · exact .inr ⟨_, g3, by simp⟩
    · exact .inr ⟨_, g0, by simp⟩
    · exact .inr ⟨_, g4, by simp⟩
    · exact .inr ⟨_, h1, by simp⟩
  have hsz : ∀ k a, (∃ o, s.heap.get? a = some o) → s.heap.objs.size + k ≠ a := fun k a ⟨o, ho⟩ => Nat.ne_of_gt (Nat.lt_of_lt_of_le (Heap.lt_size ho) (Nat.le_add_right _ _))
  have nd2 : [s.heap.objs.size + 4, s.heap.objs.size + 3, s.heap.objs.size + 5, s.heap.objs.size + 6, r, 527, cj, kl].Nodup := by
    have x1 := nd_pick hnd [4, 5, 3, 6] (by decide)
    have x1 : [r, 527, cj, kl].Nodup := x1
    have a1 := fun k => hsz k _ ⟨_, h1⟩
    have a2 := fun k => hsz k _ ⟨_, h4⟩
    have a3 := fun k => hsz k _ ⟨_, h5⟩
    have a4 := fun k => hsz k _ ⟨_, h6⟩
    simp only [List.nodup_cons, List.mem_cons, List.not_mem_nil, or_false, not_or] at x1 ⊢
    exact ⟨⟨by omega, by omega, by omega, a1 4, a2 4, a3 4, a4 4⟩, ⟨by omega, by omega, a1 3, a2 3, a3 3, a4 3⟩, ⟨by omega, a1 5, a2 5, a3 5, a4 5⟩, ⟨a1 6, a2 6, a3 6, a4 6⟩, x1⟩
  have h524 : ∀ k, 524 ≤ s.heap.objs.size + k := fun k => Nat.le_trans (hlo r (by simp)) (Nat.le_trans (Nat.le_of_lt (Heap.lt_size h1)) (Nat.le_add_right _ _))
  refine xrow_loop hA' nd2 (fun a ha => ?_) (H.at 2 rfl) ⟨_, H.at 3 rfl, rfl, rfl⟩ (H.at 10 rfl) (H.at 1 rfl) (H.at 0 rfl) (K0 _ _ h4 ?_) (H.at 6 rfl) (K0 _ _ h6 ?_) (F.keep K0 fun a ha => hlo a ?_) hk0 hk5 ?_
  · simp only [List.mem_cons, List.not_mem_nil, or_false] at ha
    rcases ha with rfl | rfl | rfl | rfl | rfl | rfl | rfl
    · exact h524 4
    · exact h524 3
    · exact h524 5
    · exact h524 6
    · exact hlo _ (by simp)
    · exact hlo _ (by simp)
    · exact hlo _ (by simp)
  · exact nd_out hnd 5 [1, 2, 3] rfl
  · exact nd_out hnd 6 [1, 2, 3] rfl
  · simp only [List.mem_cons, List.not_mem_nil, or_false] at ha ⊢
    rcases ha with h | h | h <;> simp [h]
  intro h₂ tk tt m' q' K1 e1 e2
  have kp : ∀ {o} j a, [s.heap.objs.size + 6, s.heap.objs.size + 5, s.heap.objs.size + 4, s.heap.objs.size + 3, C, acc, cj, 3, 0, 4, r, T][j]? = some a → ([j, 2, 3, 1, 0].Nodup) → h₁.get? a = some o → h₂.get? a = some o := fun j a e1 e2 e3 => K1 _ _ e3 (nd_out nd j [2, 3, 1, 0] e1 e2)
  refine go_fin [(C, D1 (pb w.params b1 b2) "row" (some (q1 q s.toks, .ref r))), (acc, lstO ys m), (s.heap.objs.size + 6, D2 (pb w.params b1 b2) "k" "bit" (some q')), (s.heap.objs.size + 5, rowO (xbit ks j b) tt m')] 11 [2,2,2,2,2,2,1]
    (.pure (.again (xrowsC En acc C cj L))) [0, 1, 3]
    [(C, D1 (pb w.params b1 b2) "row" (some (q1 q s.toks, .ref r))), (acc, lstO (ys.push (.ref (s.heap.objs.size + 5))) (m + 1)), (s.heap.objs.size + 5, rowO (xbit ks j b) tt m')] 0 0 ((Value.type "list" = .type "list" ∧ ys.size ≤ sizeLine) ∧ True) ?_ (nd_pick nd [4, 5, 0, 1] (by decide))
    (by clear hk; rcases q with _ | ⟨t1, v1⟩ <;> rcases q2 with _ | v2 <;> obtain ⟨t1', v1', t2', v2'⟩ := q' <;> cases b1 <;> cases b2 <;> kernel_rfl) ⟨⟨rfl, hz⟩, trivial⟩ (by decide) ?_
  · simp only [List.mem_cons, List.not_mem_nil, or_false, forall_eq_or_imp, forall_eq]
    exact ⟨kp 4 _ rfl (by decide) (H.at 4 rfl), kp 5 _ rfl (by decide) (H.at 5 rfl), e2, e1⟩
  intro h₃ p' H3
  have K3 : Kp [C, acc, s.heap.objs.size + 6, s.heap.objs.size + 5] h₂ h₃ := H3.kpM _ fun b hb => .inl hb
  have K : Kp [s.heap.objs.size + 4, s.heap.objs.size + 3, s.heap.objs.size + 5, s.heap.objs.size + 6, C, acc, cj] s.heap h₃ := by
    refine (K0.mono fun x hx => ?_).trans ((K1.mono fun x hx => ?_).trans (K3.mono fun x hx => ?_))
    all_goals
      simp only [List.mem_cons, List.not_mem_nil, or_false] at hx ⊢ <;> first | omega | grind
  refine base_done' (hk h₃ _ _ _ _ _ ?_ (H3.at 0 rfl) (H3.at 1 rfl) ?_ (H3.at 2 rfl) (Nat.le_add_right _ _) (h524 5))
  · exact (((K.drop (none_of_ge (by omega))).drop (none_of_ge (by omega))).drop (none_of_ge (by omega))).drop (none_of_ge (by omega))
  · exact K3 _ _ (kp 6 _ rfl (by decide) (H.at 6 rfl)) (nd_out nd 6 [4, 5, 0, 1] rfl)
end
end Mine
end

section
open PySem PySem.W PySem.W.X PySem.Builtin PyProof.Rows
set_option maxRecDepth 100000
namespace Mine
theorem rowO_congr {f g : Nat → Int} (h : ∀ i, i < 8 → f i = g i) (t : Nat → Tok) (n : Nat) : rowO f t n = rowO g t n := by
  unfold rowO
  rw [h 0 (by decide), h 1 (by decide), h 2 (by decide), h 3 (by decide), h 4 (by decide), h 5 (by decide), h 6 (by decide), h 7 (by decide)]
section
variable {w : World} {b1 b2 : Bool} {A : Around} {R : Result → Shared → Prop}
theorem xrows_loop (hh : A.handled = none) {En I l acc C cj kl L : Addr} {xs : Array Value} {os os' : List Int} {ks : List (Int × Tok)} {nk : Nat} {old : Value} {s : Shared} {q2 : Option Value} (hnd : [En, I, acc, C, cj, l, 527, kl].Nodup) (hlo : ∀ a ∈ [En, I, acc, C, cj, 527, kl], 524 ≤ a)
    (F : Fix (pb w.params b1 b2) s.heap) (hr : RowsAre s.heap xs.toList os) (hrn : ∀ (i : Nat) r, xs[i]? = some (.ref r) → r ∉ [En, I, acc, C, cj, 527, kl]) (hos : os.length ≤ 8)
    (hx' : os'.length = os.length) (hx : ∀ (j : Nat) o o', os[j]? = some o → os'[j]? = some o' → ∀ i, i < 8 → xbit ks j (bitI o) i = bitI o' i)
    (hE : IsEnum s.heap En I 0 old) (hit : s.heap.IsListIter I l 0) (hl : s.heap.IsList l xs) (hacc : s.heap.get? acc = some (lstO #[] 0)) (hC : s.heap.get? C = some (dicO #[] 0)) (hcj : s.heap.get? cj = some (cellO q2))
    (h4 : s.heap.get? 527 = some (cellO (some (.ref kl)))) (h6 : s.heap.get? kl = some (lstO (kArr ks) nk)) (hk0 : ks ≠ []) (hk5 : ks.length ≤ 5)
    (hk : ∀ h' tk ys k q q2, Kp [En, I, acc, C, cj] s.heap h' → h'.get? acc = some (lstO ys k) → NewRows s.heap h' ys.toList os' → h'.get? C = some (D1 (pb w.params b1 b2) "row" q) → h'.get? cj = some (cellO q2) → R (.ok .next) { s with heap := h', toks := tk }) :
    codeAny (model prg (wb w b1 b2)) A (xrowsC En acc C cj L) R s := by
  have hsz : xs.size = os.length := by have := hr.1; simpa using this
  have n1 : acc ∉ [En, I] := nd_out hnd 2 [0, 1] rfl
  have n2 : C ∉ [En, I] := nd_out hnd 3 [0, 1] rfl
  have n3 : cj ∉ [En, I] := nd_out hnd 4 [0, 1] rfl
  have hM : ∀ a ∈ [En, I, acc, C, cj], 524 ≤ a := fun a ha => hlo a (by simp only [List.mem_cons, List.not_mem_nil, or_false] at ha ⊢; rcases ha with h | h | h | h | h <;> simp [h])
  have hsome : ∀ a ∈ [En, I, acc, C, cj], ∃ o, s.heap.get? a = some o := fun a ha => by
    simp only [List.mem_cons, List.not_mem_nil, or_false] at ha
    rcases ha with rfl | rfl | rfl | rfl | rfl
    · exact ⟨_, hE⟩
    · obtain ⟨_, h, _⟩ := hit; exact ⟨_, h⟩
    · exact ⟨_, hacc⟩
    · exact ⟨_, hC⟩
    · exact ⟨_, hcj⟩
  refine enum_loop hh rfl (xs := xs) [acc, C, cj] (nd_ne hnd 0 1 rfl rfl) (nd_ne hnd 5 0 rfl rfl) (nd_ne hnd 5 1 rfl rfl) (nd_out hnd 0 [2, 3, 4] rfl) (nd_out hnd 1 [2, 3, 4] rfl) (nd_out hnd 5 [2, 3, 4] rfl)
    (fun i h => ∃ ys m q q2, h.get? acc = some (lstO ys m) ∧ ys.size = i ∧ h.get? C = some (D1 (pb w.params b1 b2) "row" q) ∧ h.get? cj = some (cellO q2) ∧ NewRows s.heap h ys.toList (os'.take i)) ?_ ?_ ?_ hE hit hl ⟨#[], 0, none, q2, hacc, rfl, hC, hcj, NewRows.nil _ _⟩ ?_
  · rintro i h h' ⟨ys, m, q, q2, e1, e2, e3, e4, e5⟩ K
    exact ⟨ys, m, q, q2, K _ _ e1 n1, e2, K _ _ e3 n2, K _ _ e4 n3, e5.keep K fun a ha => hsome a (by simp only [List.mem_cons, List.not_mem_nil, or_false] at ha ⊢; rcases ha with h | h <;> simp [h])⟩
  · rintro i h ⟨ys, m, q, q2, e1, e2, e3, e4, e5⟩ a ha
    simp only [List.mem_cons, List.not_mem_nil, or_false] at ha
    rcases ha with rfl | rfl | rfl
    · exact ⟨_, e1⟩
    · exact ⟨_, e3⟩
    · exact ⟨_, e4⟩
  · rintro i x tk T d n' sl h tk' Q hxi hT hTn hET hTM K hfr ⟨ys, m, q, q2, e1, e2, e3, e4, e5⟩ hQ
    have hi : i < os.length := by rw [← hsz]; exact (Array.getElem?_eq_some_iff.mp hxi).1
    obtain ⟨r, h1, h5, t, n, h2⟩ := hr.2 i os[i] (List.getElem?_eq_getElem hi)
    rw [Array.getElem?_toList, hxi] at h1
    cases h1
    have hr' := hrn i r hxi
    have hr5 : r ∉ [En, I, acc, C, cj] := fun hm => hr' (by simp only [List.mem_cons, List.not_mem_nil, or_false] at hm ⊢; rcases hm with h | h | h | h | h <;> simp [h])
    have hT524 : 524 ≤ T := Nat.le_trans (hM En (by simp)) (Nat.le_of_lt hET)
    have hx7 : [C, acc, cj, 527, kl].Nodup := nd_pick hnd [3, 2, 4, 6, 7] (by decide)
    have hnd' : [T, C, acc, cj, r, 527, kl].Nodup := by
      have a1 : T ∉ [C, acc, cj, r, 527, kl] := by
        simp only [List.mem_cons, List.not_mem_nil, or_false, not_or] at hTM ⊢
        exact ⟨hTM.2.1, hTM.1, hTM.2.2, ne_none hTn h2, ne_none hTn h4, ne_none hTn h6⟩
      have a2 : (r :: [C, acc, cj, 527, kl]).Nodup := List.nodup_cons.mpr ⟨fun hm => hr' (by simp only [List.mem_cons, List.not_mem_nil, or_false] at hm ⊢; rcases hm with h | h | h | h | h <;> simp [h]), hx7⟩
      exact List.nodup_cons.mpr ⟨a1, nd_pick a2 [1, 2, 3, 0, 4, 5] (by decide)⟩
    have hlo' : ∀ a ∈ [T, C, acc, cj, r, 527, kl], 524 ≤ a := fun a ha => by
      simp only [List.mem_cons, List.not_mem_nil, or_false] at ha
      rcases ha with rfl | rfl | rfl | rfl | rfl | rfl | rfl
      · exact hT524
      · exact hlo _ (by simp)
      · exact hlo _ (by simp)
      · exact hlo _ (by simp)
      · exact h5
      · exact hlo _ (by simp)
      · exact hlo _ (by simp)
    refine xrows_body hh (En := En) (L := L) (s := { s with heap := h, toks := tk' }) hnd' hlo' hT (K _ _ h2 hr5) e3 e1 (K _ _ h4 (nd_out hnd 6 [0, 1, 2, 3, 4] rfl)) e4 (K _ _ h6 (nd_out hnd 7 [0, 1, 2, 3, 4] rfl)) (F.keep K hM)
      (by rw [e2]; exact Nat.le_trans (by omega : i ≤ 8) (by decide +kernel)) hk0 hk5 ?_
    intro h' tk2 r' t1 n2 q' K2 f1 f2 f3 f4 f5 f6
    have hi' : i < os'.length := by rw [hx']; exact hi
    have e6 : os'.take (i + 1) = os'.take i ++ [os'[i]] := by rw [List.take_add_one, List.getElem?_eq_getElem hi']; rfl
    refine hQ h' tk2 (K2.mono fun x hx => by simp only [List.mem_cons, List.not_mem_nil, or_false] at hx ⊢; rcases hx with h | h | h <;> simp [h]) ⟨_, _, q', _, f2, by rw [Array.size_push, e2], f1, f3, ?_⟩
    rw [Array.toList_push, e6]
    refine (e5.keep K2 fun a ha => hsome a (by simp only [List.mem_cons, List.not_mem_nil, or_false] at ha ⊢; rcases ha with h | h | h <;> simp [h])).push ⟨t1, n2, ?_⟩ (hfr r' f5) f6
    rw [f4, rowO_congr (hx i os[i] os'[i] (List.getElem?_eq_getElem hi) (List.getElem?_eq_getElem hi'))]
  · rintro h' tk K ⟨ys, m, q, q2, e1, e2, e3, e4, e5⟩
    rw [hsz, ← hx', List.take_length] at e5
    exact hk h' tk ys m q q2 K e1 e5 e3 e4
end
end Mine
end

section
open PySem PySem.W PySem.W.X PySem.Builtin PyProof.Rows
set_option maxRecDepth 100000
namespace Mine
section
variable {w : World} {b1 b2 : Bool} {A : Around} {R : Result → Shared → Prop}
abbrev rrowsSc : Scope := relab (compScope rrowsE) ["amount"]
abbrev rrowsC (I acc C L : Addr) : Code := .compLoop rrowsE 0 (.ref I) (.ref acc) (inEnv rrowsSc C L [("amount", 528)])
def rotI (am : Int) (b : Nat → Int) (i : Nat) : Int := b ((i + am.toNat) % 8)
theorem rrows_body (hh : A.handled = none) {I r acc C L : Addr} {am : Int} {ta : Tok} {b : Nat → Int} {t : Nat → Tok} {n : Nat} {s : Shared} {ys : Array Value} {m : Nat} {q : Option (Tok × Value)} {Q : Fin → Shared → Prop} {E : Value → Shared → Prop}
    (hnd : [r, C, acc, 528].Nodup) (h1 : s.heap.get? r = some (rowO b t n)) (h2 : s.heap.get? C = some (D1 (pb w.params b1 b2) "row" q)) (h3 : s.heap.get? acc = some (lstO ys m)) (h4 : s.heap.get? 528 = some (cellO (some (.int am ta))))
    (hz : ys.size ≤ sizeLine) (ha0 : 0 ≤ am) (ha8 : am ≤ 8)
    (hk : ∀ h', HS s.heap h' [r, C, acc, 528] [(s.heap.objs.size + 4, rowO (rotI am b) (fun i => t ((i + am.toNat) % 8)) 0), (C, D1 (pb w.params b1 b2) "row" (some (q1 q s.toks, .ref r))), (acc, lstO (ys.push (.ref (s.heap.objs.size + 4))) (m + 1)), (r, rowO b t n), (528, cellO (some (.int am ta)))] 5 →
      Q (.again (rrowsC I acc C L)) { s with heap := h', toks := s.toks + 5 }) :
    wpAny (model prg (wb w b1 b2)) A (bodyX (rrowsC I acc C L) (compElt rrowsE) (compTarget rrowsE) (.ref acc) (inEnv rrowsSc C L [("amount", 528)]) (.ref r)) Q E s := by
  refine any_fin hh [(r, rowO b t n), (C, D1 (pb w.params b1 b2) "row" q), (acc, lstO ys m), (528, cellO (some (.int am ta)))] 76 [1,1,1,3,1,1,1,1,0,0,0,0,0,1,3,5,3,3,3,3,0,0,0,0,0,3,2,0,2,2,0,2,0,7] (.again (rrowsC I acc C L)) [0, 6, 7, 5, 8]
    [(s.heap.objs.size + 4, rowO (rotI am b) (fun i => t ((i + am.toNat) % 8)) 0), (C, D1 (pb w.params b1 b2) "row" (some (q1 q s.toks, .ref r))), (acc, lstO (ys.push (.ref (s.heap.objs.size + 4))) (m + 1)), (r, rowO b t n), (528, cellO (some (.int am ta)))] 5 5
    ((Value.type "list" = .type "list" ∧ ys.size ≤ sizeLine) ∧ True) ?_ hnd
    (fun _ _ _ _ _ => by
      clear hk
      have : am = 0 ∨ am = 1 ∨ am = 2 ∨ am = 3 ∨ am = 4 ∨ am = 5 ∨ am = 6 ∨ am = 7 ∨ am = 8 := by omega
      rcases this with rfl | rfl | rfl | rfl | rfl | rfl | rfl | rfl | rfl <;> rcases q with _ | ⟨t1, v1⟩ <;> kernel_rfl) ⟨⟨rfl, hz⟩, trivial⟩ (by decide) hk
  simp only [List.mem_cons, List.not_mem_nil, or_false, forall_eq_or_imp, forall_eq]
  exact ⟨h1, h2, h3, h4⟩
theorem rrows_loop (hh : A.handled = none) {I l acc C L : Addr} {xs : Array Value} {os os' : List Int} {am : Int} {ta : Tok} {s : Shared} (hnd : [I, acc, C, l, 528].Nodup) (hlo : ∀ a ∈ [I, acc, C], 524 ≤ a) (ha0 : 0 ≤ am) (ha8 : am ≤ 8)
    (hr : RowsAre s.heap xs.toList os) (hrn : ∀ (i : Nat) r, xs[i]? = some (.ref r) → r ∉ [I, acc, C, 528]) (hos : os.length ≤ 8)
    (hx' : os'.length = os.length) (hx : ∀ (j : Nat) o o', os[j]? = some o → os'[j]? = some o' → ∀ i, i < 8 → rotI am (bitI o) i = bitI o' i)
    (hit : s.heap.IsListIter I l 0) (hl : s.heap.IsList l xs) (hacc : s.heap.get? acc = some (lstO #[] 0)) (hC : s.heap.get? C = some (dicO #[] 0)) (h4 : s.heap.get? 528 = some (cellO (some (.int am ta))))
    (hk : ∀ h' tk ys k q, Kp [I, acc, C] s.heap h' → h'.get? acc = some (lstO ys k) → NewRows s.heap h' ys.toList os' → h'.get? C = some (D1 (pb w.params b1 b2) "row" q) → R (.ok .next) { s with heap := h', toks := tk }) :
    codeAny (model prg (wb w b1 b2)) A (rrowsC I acc C L) R s := by
  have hsz : xs.size = os.length := by have := hr.1; simpa using this
  have n1 : acc ∉ [I] := nd_out hnd 1 [0] rfl
  have n2 : C ∉ [I] := nd_out hnd 2 [0] rfl
  have hsome : ∀ a ∈ [I, acc, C], ∃ o, s.heap.get? a = some o := fun a ha => by
    simp only [List.mem_cons, List.not_mem_nil, or_false] at ha
    rcases ha with rfl | rfl | rfl
    · obtain ⟨_, h, _⟩ := hit; exact ⟨_, h⟩
    · exact ⟨_, hacc⟩
    · exact ⟨_, hC⟩
  refine list_loop hh rfl (fun v => rfl) (xs := xs) [acc, C] (nd_ne hnd 3 0 rfl rfl) (nd_out hnd 0 [1, 2] rfl) (nd_out hnd 3 [1, 2] rfl)
    (fun i h => ∃ ys m q, h.get? acc = some (lstO ys m) ∧ ys.size = i ∧ h.get? C = some (D1 (pb w.params b1 b2) "row" q) ∧ NewRows s.heap h ys.toList (os'.take i)) ?_ ?_ ?_ hit hl ⟨#[], 0, none, hacc, rfl, hC, NewRows.nil _ _⟩ ?_
  · rintro i h h' ⟨ys, m, q, e1, e2, e3, e5⟩ K
    exact ⟨ys, m, q, K _ _ e1 n1, e2, K _ _ e3 n2, e5.keep K fun a ha => hsome a (by simp only [List.mem_cons, List.not_mem_nil, or_false] at ha ⊢; simp [ha])⟩
  · rintro i h ⟨ys, m, q, e1, e2, e3, e5⟩ a ha
    simp only [List.mem_cons, List.not_mem_nil, or_false] at ha
    rcases ha with rfl | rfl
    · exact ⟨_, e1⟩
    · exact ⟨_, e3⟩
  · rintro i x h tk' Q hxi K hfr ⟨ys, m, q, e1, e2, e3, e5⟩ hQ
    have hi : i < os.length := by rw [← hsz]; exact (Array.getElem?_eq_some_iff.mp hxi).1
    obtain ⟨r, h1, h5, t, n, h2⟩ := hr.2 i os[i] (List.getElem?_eq_getElem hi)
    rw [Array.getElem?_toList, hxi] at h1
    cases h1
    have hr' := hrn i r hxi
    have hr3 : r ∉ [I, acc, C] := fun hm => hr' (by simp only [List.mem_cons, List.not_mem_nil, or_false] at hm ⊢; rcases hm with h | h | h <;> simp [h])
    have hnd' : [r, C, acc, 528].Nodup := List.nodup_cons.mpr ⟨fun hm => hr' (by simp only [List.mem_cons, List.not_mem_nil, or_false] at hm ⊢; rcases hm with h | h | h <;> simp [h]), nd_pick hnd [2, 1, 4] (by decide)⟩
    have hK4 := K _ _ h4 (nd_out hnd 4 [0, 1, 2] rfl)
    refine rrows_body hh (I := I) (L := L) (s := { s with heap := h, toks := tk' }) hnd' (K _ _ h2 hr3) e3 e1 hK4 (by rw [e2]; exact Nat.le_trans (by omega : i ≤ 8) (by decide +kernel)) ha0 ha8 ?_
    intro h' H
    have K2 : Kp [acc, C] h h' := H.kpM _ fun b hb => by
      have : b ∈ [r, C, acc, 528] := hb
      simp only [List.mem_cons, List.not_mem_nil, or_false] at this
      rcases this with rfl | rfl | rfl | rfl
      · exact .inr ⟨_, K _ _ h2 hr3, by simp⟩
      · simp
      · simp
      · exact .inr ⟨_, hK4, by simp⟩
    have hi' : i < os'.length := by rw [hx']; exact hi
    have e6 : os'.take (i + 1) = os'.take i ++ [os'[i]] := by rw [List.take_add_one, List.getElem?_eq_getElem hi']; rfl
    refine hQ h' _ K2 ⟨_, _, _, H.at 2 rfl, by rw [Array.size_push, e2], H.at 1 rfl, ?_⟩
    rw [Array.toList_push, e6]
    have hle : h.objs.size ≤ h.objs.size + 4 := Nat.le_add_right _ _
    refine (e5.keep K2 fun a ha => hsome a (by simp only [List.mem_cons, List.not_mem_nil, or_false] at ha ⊢; rcases ha with h | h <;> simp [h])).push ⟨fun i => t ((i + am.toNat) % 8), 0, ?_⟩ (hfr _ hle) (Nat.le_trans h5 (Nat.le_trans (Nat.le_of_lt (Heap.lt_size (K _ _ h2 hr3))) hle))
    rw [← rowO_congr (hx i os[i] os'[i] (List.getElem?_eq_getElem hi) (List.getElem?_eq_getElem hi'))]
    exact H.at 0 rfl
  · rintro h' tk K ⟨ys, m, q, e1, e2, e3, e5⟩
    rw [hsz, ← hx', List.take_length] at e5
    exact hk h' tk ys m q K e1 e5 e3
end
end Mine
end

section
open PySem PySem.W PySem.W.X PySem.Builtin PyProof.Rows
set_option maxRecDepth 100000
namespace Mine
section
variable {prog : Program} {w : World} {A : Around}
theorem bytesS_loop {R : Result → Shared → Prop} {I S : Addr} {fp wr : List Addr} {G : Array GenState → Array GenState → Prop} {n : Nat} {P : Nat → Value → Prop} {St : Nat → Shared → Prop} {ns : List Int} (W : WalksS prog w A.in1 I fp wr G n P St)
    (hn : ns.length = n) (hP : ∀ i v, P i v → ∃ t, v = .int (ns.getD i 0) t) (hr : ∀ n ∈ ns, 0 ≤ n ∧ n < 256) (hz : ns.length ≤ sizeLine) (hSf : S ∉ fp) :
    ∀ (k i : Nat) (s : Shared), n - i = k → i ≤ n → St i s → s.heap.get? S = some { cls := .type "bytearray", data := .bytearray (byteArr (ns.take i)) } →
      (∀ s' t, Moved (S :: wr) G s s' → R (.ok (.ret (.bytes (byteArr ns) t))) s') →
      codeAny (model prog w) A (.builtin "bytes.__new__.loop" ⟨[.type "bytes", .ref I, .ref S], []⟩) R s := by
  subst hn
  have hSw : S ∉ wr := fun h => hSf (W.sub _ h)
  intro k
  induction k with
  | zero =>
    intro i s hk hle hst hS hR
    have hin : i = ns.length := by omega
    subst hin
    refine codeAny_builtin F.bm_entry_loop ?_
    rw [Around.under_plainId F.bm_plain_loop _]
    show wpAny _ A.in1 (pyNext (.ref I) >>= _) _ _ s
    refine wpAny_bind (W.done s _ _ hst fun s' hm => ?_)
    have hS' : s'.heap.get? S = some { cls := .type "bytearray", data := .bytearray (byteArr (ns.take ns.length)) } := hm.heap S _ hSw hS
    refine wpAny_bind ?_
    unfold Builtin.Bytes.payload Builtin.Bytes.payload?
    refine wpAny_bind (wpAny_bind (wpAny_load hS' ?_))
    refine wpAny_pure (wpAny_pure ?_)
    rw [List.take_length]
    refine wpAny_bind (wpAny_mkBytes ?_ (by rw [byteArr_size]; exact hz))
    show wpAny _ _ (if (Value.type "bytes" == Value.type "bytes") = true then _ else _) _ _ _
    refine bm_if_true (by decide) ?_
    have fin : Moved (S :: wr) G s { s' with toks := s'.toks + 1 } := ⟨fun b o hb e => hm.heap b o (fun h => hb (List.mem_cons_of_mem _ h)) e, hm.gens, hm.drawn, hm.os, Nat.le_succ_of_le hm.toks⟩
    first
      | exact wpAny_pure (hR _ _ fin)
      | exact wpAny_bind (wpAny_pure (wpAny_pure (hR _ _ fin)))
  | succ k ih =>
    intro i s hk hle hst hS hR
    have hlt : i < ns.length := by omega
    refine codeAny_builtin F.bm_entry_loop ?_
    rw [Around.under_plainId F.bm_plain_loop _]
    show wpAny _ A.in1 (pyNext (.ref I) >>= _) _ _ s
    refine wpAny_bind (W.item i s _ _ hlt hst fun v s' hv hst' hm => ?_)
    obtain ⟨t, rfl⟩ := hP i v hv
    have hnn : ns[i]? = some (ns.getD i 0) := by
      rw [List.getD_eq_getElem?_getD, List.getElem?_eq_getElem hlt]; rfl
    generalize ns.getD i 0 = n at hnn
    obtain ⟨h0, h1⟩ := hr n (List.mem_of_getElem? hnn)
    have hS' : s'.heap.get? S = some { cls := .type "bytearray", data := .bytearray (byteArr (ns.take i)) } := hm.heap S _ hSw hS
    refine wpAny_bind (wpAny_holding (wpAny_of_eq (rfl : asIndex (.int n t) = pure n) ?_))
    refine wpAny_bind (wpAny_letGo ?_)
    refine bm_if_false (by simp only [Bool.or_eq_false_iff, decide_eq_false_iff_not]; omega) ?_
    refine wpAny_bind ?_
    show wpAny _ _ (updateBytearray S (·.push n.toNat.toUInt8)) _ _ _
    unfold updateBytearray
    refine wpAny_bind (wpAny_load hS' ?_)
    show wpAny _ _ (update S (Obj.mapBytearray (·.push n.toNat.toUInt8)) >>= fun _ => lookBehind S) _ _ _
    refine wpAny_bind (wpAny_update hS' ?_)
    have hS₂ : (s'.heap.update S (Obj.mapBytearray (·.push n.toNat.toUInt8))).get? S = some { cls := .type "bytearray", data := .bytearray (byteArr (ns.take (i + 1))) } := by
      rw [byteArr_take hnn]
      exact Heap.get?_update_self (Obj.mapBytearray (·.push n.toNat.toUInt8)) hS' rfl
    refine wpAny_lookBehind hS₂ ?_ ?_
    · show (if (byteArr (ns.take (i + 1))).size > sizeLine then some "bytearray:memory" else none) = none
      rw [if_neg]
      rw [byteArr_size, List.length_take]
      omega
    · refine wpAny_pure ⟨plainId_quiet F.bm_plain_loop _, ih (i + 1) { s' with heap := s'.heap.update S (Obj.mapBytearray (·.push n.toNat.toUInt8)) } (by omega) hlt ?_ hS₂ fun s3 t3 hk3 => ?_⟩
      · exact W.frame (i + 1) s' _ _ hst' (Nat.le_refl _) fun b hb o e => (Heap.get?_update_other _ _ (show S ≠ b from fun h => hSf (h ▸ hb))).trans e
      · refine hR s3 t3 ⟨fun b o hb e => hk3.heap b o hb ((Heap.get?_update_other _ _ (show S ≠ b from fun h => hb (by simp [h]))).trans (hm.heap b o (fun h => hb (List.mem_cons_of_mem _ h)) e)), W.gtrans _ _ _ hm.gens hk3.gens, hk3.drawn.trans hm.drawn, hk3.os.trans hm.os, Nat.le_trans hm.toks hk3.toks⟩
end
end Mine
end

section
open PySem PySem.W PySem.W.X PySem.Builtin PyProof.Rows
set_option maxRecDepth 100000
namespace Mine
section
variable {prog : Program} {w : World} {A : Around}
end
section
variable {w : World} {b1 b2 : Bool} {A : Around}
theorem call_bytes_gen (hh : A.handled = none) {Q : Value → Shared → Prop} {E : Value → Shared → Prop} {I : Addr} {g nm qn : Value} {d : Option Addr} {s : Shared} (ho : s.heap.get? I = some ⟨.type "generator", d, .fields #[g, nm, qn], #[]⟩)
    {fp wr : List Addr} {G : Array GenState → Array GenState → Prop} {n : Nat} {P : Nat → Value → Prop} {St : Nat → Shared → Prop} {ns : List Int} (W : WalksS prg (wb w b1 b2) A.in4 I fp wr G n P St) (hst : St 0 s) (hfp : ∀ b ∈ fp, b < s.heap.objs.size)
    (hn : ns.length = n) (hP : ∀ i v, P i v → ∃ t, v = .int (ns.getD i 0) t) (hr : ∀ n ∈ ns, 0 ≤ n ∧ n < 256) (hz : ns.length ≤ sizeLine)
    (hQ : ∀ s' t, Moved wr G s s' → Q (.bytes (byteArr ns) t) s') : wpAny (model prg (wb w b1 b2)) A (call (.type "bytes") [.ref I]) Q E s := by
  refine wpAny_valF ?_
  rw [call_eq]
  refine enter_any hh fun c own below past p hI => ?_
  refine go_again hI [(I, ⟨.type "generator", d, .fields #[g, nm, qn], #[]⟩)] 20 [0, 0, 0, 0, 0, 0, 0, 0, 0, 0, 0] (.builtin "bytes.__new__.loop" ⟨[.type "bytes", .ref I, .ref s.heap.objs.size], []⟩) [0, 1]
    [(s.heap.objs.size, { cls := .type "bytearray", data := .bytearray #[] }), (I, ⟨.type "generator", d, .fields #[g, nm, qn], #[]⟩)] 1 0 True ?_ (by simp) (by cases b2 <;> kernel_rfl) trivial (by decide) (plainId_quiet F.bm_plain_loop _) ?_
  · simp only [List.mem_cons, List.not_mem_nil, or_false, forall_eq]
    exact ho
  intro h₁ H A' hA hA'
  have hA2 : A' = A.in1 := by
    have e : A' = (A.mark none).under (.builtin "type.__call__" ⟨[.type "bytes", .ref I], []⟩) := by
      rw [hA]
      cases b2 <;> kernel_rfl
    have hm : A.mark none = A := by cases A; rfl
    rw [e, hm, Around.under_plain (PySem.weight_type_call_type "bytes" [.ref I] []) (PySem.units_type_call_type "bytes" [.ref I] [])]
  subst hA2
  have K : Kp [] s.heap h₁ := H.kpM _ fun b hb => by
    have : b ∈ [I] := hb
    rw [List.mem_singleton] at this
    subst this
    exact .inr ⟨_, ho, by simp⟩
  have hSf : s.heap.objs.size ∉ fp := fun hm => absurd (hfp _ hm) (Nat.lt_irrefl _)
  refine bytesS_loop (A := A.in1) (W.of_in1.of_in1) hn hP hr hz hSf n 0 _ rfl (Nat.zero_le _) (W.frame 0 s _ _ hst (Nat.le_refl _) fun b _ o e => K b o e (by simp)) (H.at 0 rfl) fun s' t hm => ?_
  refine go_fin [] 5 [] (.pure (.done (.ret (.bytes (byteArr ns) t)))) [] [] 0 0 True (by simp) (by simp) (by cases b2 <;> kernel_rfl) trivial (by decide) ?_
  intro h₂ p' H2
  refine base_done' ?_
  refine hQ _ t ⟨fun b o hb e => H2.keep b o (hm.heap b o ?_ (K b o e (by simp))) (by simp), hm.gens, hm.drawn, hm.os, hm.toks⟩
  intro h
  rcases List.mem_cons.mp h with rfl | h
  · exact absurd (Heap.lt_size e) (Nat.lt_irrefl _)
  · exact hb h
end
end Mine
end

section
open PySem PySem.W PySem.W.X PySem.Builtin PyProof.Rows
set_option maxRecDepth 100000
namespace Mine
namespace BA
theorem slot_next : Slot "bytearray_iterator" "__next__" "bytearray_iterator.__next__" :=
  .of (owner := "bytearray_iterator") (n := "__next__") (by rw [typeLookup_type, builtinLookup_eq_fast]; kernel_rfl) (by decide +kernel) (by decide +kernel) (by decide +kernel)
    (by first | exact .inl (by decide +kernel) | exact .inr (by decide +kernel)) (by rw [isSubtype_type]; kernel_rfl)
theorem slot_self : Slot "bytearray_iterator" "__iter__" "bytearray_iterator.__iter__" :=
  .of (owner := "bytearray_iterator") (n := "__iter__") (by rw [typeLookup_type, builtinLookup_eq_fast]; kernel_rfl) (by decide +kernel) (by decide +kernel) (by decide +kernel)
    (by first | exact .inl (by decide +kernel) | exact .inr (by decide +kernel)) (by rw [isSubtype_type]; kernel_rfl)
theorem slot_iter : Slot "bytearray" "__iter__" "bytearray.__iter__" :=
  .of (owner := "bytearray") (n := "__iter__") (by rw [typeLookup_type, builtinLookup_eq_fast]; kernel_rfl) (by decide +kernel) (by decide +kernel) (by decide +kernel)
    (by first | exact .inl (by decide +kernel) | exact .inr (by decide +kernel)) (by rw [isSubtype_type]; kernel_rfl)
theorem entry_next : entryFor table "bytearray_iterator.__next__" = some Builtin.«bytearray_iterator.__next__» := entryFor_of_tree (by kernel_rfl)
theorem entry_self : entryFor table "bytearray_iterator.__iter__" = some Builtin.«dict_keyiterator.__iter__» := entryFor_alias (id' := "dict_keyiterator.__iter__") (by kernel_rfl) rfl (by decide +kernel) (by kernel_rfl)
theorem entry_iter : entryFor table "bytearray.__iter__" = some Builtin.«bytearray.__iter__» := entryFor_of_tree (by kernel_rfl)
theorem args_next (a : Value) : argsOk "bytearray_iterator.__next__" ⟨[a], []⟩ := by unfold argsOk; kernel_rfl
theorem args_self (a : Value) : argsOk "bytearray_iterator.__iter__" ⟨[a], []⟩ := by unfold argsOk; kernel_rfl
theorem args_iter (a : Value) : argsOk "bytearray.__iter__" ⟨[a], []⟩ := by unfold argsOk; kernel_rfl
def IsIt (h : Heap) (it a : Addr) (i : Nat) : Prop := ∃ o, h.get? it = some o ∧ o.cls = .type "bytearray_iterator" ∧ o.data = .fields #[.ref a, .int i 0]
abbrev baO (b : Array UInt8) : Obj := { cls := .type "bytearray", data := .bytearray b }
def From (h : Heap) (a : Addr) (b0 : Array UInt8) (i : Nat) : Prop := ∃ b, h.get? a = some (baO b) ∧ b.size = b0.size ∧ ∀ j, i ≤ j → b[j]? = b0[j]?
theorem it_typeIs {s : Shared} {it a : Addr} {i : Nat} (y : IsIt s.heap it a i) : s.TypeIs (.ref it) "bytearray_iterator" := let ⟨o, ho, hc, _⟩ := y; ⟨o, ho, hc⟩
section
variable {prog : Program} {w : World} {A : Around} {E : Value → Shared → Prop} {s : Shared}
theorem pyIter_ba {Q : Value → Shared → Prop} {a : Addr} {b : Array UInt8} (ho : s.heap.get? a = some (baO b)) (hQ : Q (.ref s.heap.objs.size) { s with heap := s.heap.push { cls := .type "bytearray_iterator", data := .fields #[.ref a, .int 0 0] } }) : wpAny (model prog w) A (pyIter (.ref a)) Q E s := by
  have hT : s.TypeIs (.ref a) "bytearray" := ⟨_, ho, rfl⟩
  refine wpAny_pyIter_slot hT slot_iter (wpAny_call_entry slot_iter hT entry_iter ?_ (args_iter _))
  show wpAny _ _ (do ret (← newFields "bytearray_iterator" [.ref a, rawInt 0])) _ _ s
  exact wpAny_bind (wpAny_newObj_type (wpAny_pure ⟨_, rfl, "bytearray_iterator", _, ⟨_, Heap.get?_push_size _ rfl, rfl⟩, slot_next.lookup, hQ⟩))
theorem pyIter_self {it a : Addr} {i : Nat} {Q : Value → Shared → Prop} (hit : IsIt s.heap it a i) (h : Q (.ref it) s) : wpAny (model prog w) A (pyIter (.ref it)) Q E s := by
  refine wpAny_pyIter_slot (it_typeIs hit) slot_self (wpAny_call_entry slot_self (it_typeIs hit) entry_self ?_ (args_self _))
  show wpAny _ _ (ret (.ref it)) _ _ s
  exact wpAny_pure ⟨_, rfl, "bytearray_iterator", _, it_typeIs hit, slot_next.lookup, h⟩
theorem code_item {R : Result → Shared → Prop} {it a : Addr} {i : Nat} {b : Array UInt8} {c : UInt8} (hit : IsIt s.heap it a i) (hb : s.heap.get? a = some (baO b)) (hx : b[i]? = some c)
    (hQ : ∀ h', IsIt h' it a (i + 1) → Heap.SameBut it s.heap h' → R (.ok (.ret (.int (c.toNat : Int) s.toks))) { s with heap := h', toks := s.toks + 1 }) : codeAny (model prog w) A (.call (.builtin "bytearray_iterator.__next__") ⟨[.ref it], []⟩) R s := by
  obtain ⟨o, ho, hc, hd⟩ := id hit
  refine codeAny_call_builtin slot_next.plain entry_next (slot_next.check _ _ _ _ _ _ _ _ (it_typeIs hit) (args_next _) ?_)
  show wpAny _ _ (field (.ref it) 0 >>= _) _ _ s
  refine wpAny_bind (wpAny_field ho hd (x := .ref a) rfl ?_)
  show wpAny _ _ (load a >>= _) _ _ s
  refine wpAny_bind (wpAny_load hb ?_)
  show wpAny _ _ (field (.ref it) 1 >>= _) _ _ s
  refine wpAny_bind (wpAny_field ho hd (x := .int i 0) rfl ?_)
  simp only [Int.toNat_natCast, hx]
  refine wpAny_bind (wpAny_setField ho hd (by simp) (wpAny_bind (wpAny_mkInt (wpAny_pure (hQ _ ?_ (Heap.SameBut.update ..))))))
  exact ⟨_, Heap.get?_update_self _ ho (Obj.isFreed_of_fields (Obj.data_mapFields hd _)), (Obj.cls_mapFields ..).trans hc, by
    rw [Obj.data_mapFields hd]; simp [rawInt]⟩
theorem next_item {it a : Addr} {i : Nat} {b : Array UInt8} {c : UInt8} {Q : Option Value → Shared → Prop} (hit : IsIt s.heap it a i) (hb : s.heap.get? a = some (baO b)) (hx : b[i]? = some c)
    (hQ : ∀ h', IsIt h' it a (i + 1) → Heap.SameBut it s.heap h' → Q (some (.int (c.toNat : Int) s.toks)) { s with heap := h', toks := s.toks + 1 }) : wpAny (model prog w) A (pyNext (.ref it)) Q E s := by
  obtain ⟨o, ho, hc, hd⟩ := id hit
  unfold pyNext
  refine wpAny_bind (wpAny_attempt (wpAny_callSpecial?_slot (name := PySem.Str.ofString "__next__") (it_typeIs hit) slot_next
    (wpAny_call_entry slot_next (it_typeIs hit) entry_next ?_ (args_next _))))
  show wpAny _ _ (field (.ref it) 0 >>= _) _ _ s
  refine wpAny_bind (wpAny_field ho hd (x := .ref a) rfl ?_)
  show wpAny _ _ (load a >>= _) _ _ s
  refine wpAny_bind (wpAny_load hb ?_)
  show wpAny _ _ (field (.ref it) 1 >>= _) _ _ s
  refine wpAny_bind (wpAny_field ho hd (x := .int i 0) rfl ?_)
  simp only [Int.toNat_natCast, hx]
  refine wpAny_bind (wpAny_setField ho hd (by simp) (wpAny_bind (wpAny_mkInt (wpAny_pure ⟨_, rfl, wpAny_pure (hQ _ ?_ (Heap.SameBut.update ..))⟩))))
  exact ⟨_, Heap.get?_update_self _ ho (Obj.isFreed_of_fields (Obj.data_mapFields hd _)), (Obj.cls_mapFields ..).trans hc, by
    rw [Obj.data_mapFields hd]; simp [rawInt]⟩
theorem next_end {it a : Addr} {i : Nat} {b : Array UInt8} {Q : Option Value → Shared → Prop} (hh : A.handled = none) (hit : IsIt s.heap it a i) (hb : s.heap.get? a = some (baO b)) (hx : b[i]? = none)
    (hQ : ∀ h', Heap.ExtBut it s.heap h' → Q none { s with heap := h' }) : wpAny (model prog w) A (pyNext (.ref it)) Q E s := by
  obtain ⟨o, ho, hc, hd⟩ := id hit
  unfold pyNext
  refine wpAny_bind (wpAny_attempt (wpAny_callSpecial?_slot (name := PySem.Str.ofString "__next__") (it_typeIs hit) slot_next
    (wpAny_call_entry slot_next (it_typeIs hit) entry_next ?_ (args_next _))))
  show wpAny _ _ (field (.ref it) 0 >>= _) _ _ s
  refine wpAny_bind (wpAny_field ho hd (x := .ref a) rfl ?_)
  show wpAny _ _ (load a >>= _) _ _ s
  refine wpAny_bind (wpAny_load hb ?_)
  show wpAny _ _ (field (.ref it) 1 >>= _) _ _ s
  refine wpAny_bind (wpAny_field ho hd (x := .int i 0) rfl ?_)
  simp only [Int.toNat_natCast, hx]
  refine wpAny_bind (wpAny_rule (wpAny_bind (wpAny_setField ho hd (by simp) ?_)))
  refine wpAny_bind (wpAny_letGo ?_)
  show wpAny _ _ (newExc (.type "StopIteration") [] >>= _) _ _ _
  refine wpAny_bind ?_
  simp only [newExc, newTuple]
  refine wpAny_bind (wpAny_newObj_type ?_ (by size_fits))
  refine wpAny_bind (m := firstArgMember _ _) (wpAny_of_eq (a := Value.none) (by first | rfl | (simp only [firstArgMember]; rfl)) ?_)
  refine wpAny_newObj_type ?_ (by size_fits)
  simp only [raiseNew]
  refine wpAny_bind (wpAny_handled ?_)
  rw [show A.in1.handled = none from hh]
  refine wpAny_bind (wpAny_pure (wpAny_throw ?_))
  refine wpAny_bind (wpAny_isInstance (T := "StopIteration") (b := true) ⟨_, Heap.get?_push_size _ rfl, rfl⟩ isSubtype_stop ?_)
  exact wpAny_pure (hQ _ (((Heap.SameBut.update ..).extBut.push _).push _))
end
theorem From.keep {h h' : Heap} {a : Addr} {b0 : Array UInt8} {i j : Nat} (y : From h a b0 i) (hij : i ≤ j) (hk : ∀ o, h.get? a = some o → h'.get? a = some o) : From h' a b0 j := by
  obtain ⟨b, e1, e2, e3⟩ := y
  exact ⟨b, hk _ e1, e2, fun k hk => e3 k (Nat.le_trans hij hk)⟩
theorem walks {prog : Program} {w : World} {A : Around} (hh : A.handled = none) (I a : Addr) (hne : a ≠ I) (b : Array UInt8) :
    Walks prog w A I [I, a] [I] b.size (fun i v => ∃ c u, b[i]? = some c ∧ v = .int (c.toNat : Int) u) (fun i h => IsIt h I a i ∧ From h a b i) where
  sub := fun _ hb => by simp at hb; simp [hb]
  frame := fun i _ _ st hk => ⟨let ⟨o, ho, r⟩ := st.1; ⟨o, hk I (by simp) o ho, r⟩, st.2.keep (Nat.le_refl _) fun o e => hk a (by simp) o e⟩
  item := fun i s Q E hi st hQ => by
    obtain ⟨st1, b', e1, e2, e3⟩ := st
    refine next_item st1 e1 (c := b[i]) (by rw [e3 i (Nat.le_refl _)]; simp [hi]) fun h' hit' hs' => ?_
    exact hQ _ h' (s.toks + 1) ⟨_, _, by simp [hi], rfl⟩ ⟨hit', From.keep ⟨b', e1, e2, e3⟩ (Nat.le_succ _) fun o e => hs'.extBut a o hne e⟩ fun b o hb e => hs'.extBut b o (fun h => hb (by simp [h])) e
  done := fun s Q E st hQ => by
    obtain ⟨st1, b', e1, e2, e3⟩ := st
    exact next_end hh st1 e1 (by rw [e3 _ (Nat.le_refl _)]; simp) fun h' he' => hQ h' s.toks fun b o hb e => he' b o (fun h => hb (by simp [h])) e
  self := fun _ _ _ _ st hQ => pyIter_self st.1 hQ
end BA
end Mine
end

section
open PySem PySem.W PySem.W.X PySem.Builtin PyProof.Rows
set_option maxRecDepth 100000
namespace Mine
def isStrV : Value → Bool
  | .str .. => true
  | _ => false
theorem strKeys_of {es : Array DictEntry} (h : (es.toList.all fun e => isStrV e.key) = true) : StrKeys es := fun e he => by
  have z := List.all_eq_true.mp h e (Array.mem_def.mp he)
  cases hk : e.key with
  | str n t => exact ⟨n, t, rfl⟩
  | _ => rw [hk] at z; cases z
theorem nolimit_ob2 {P : Params} {h : Heap} (e : h.get? 2 = some (ob2 P)) : h.NoLimit := by
  refine ⟨_, ⟨_, _, _, e, rfl, strKeys_of ?_, fun _ => rfl⟩, ?_⟩
  · kernel_rfl
  · kernel_rfl
def fdOf (o : Obj) : FuncData := match o.data with
  | .func f => f
  | _ => default
def xoneEnv (N : Addr) : Env := { scope := scopeOf xoneS, locals := N, globals := 3, cells := [("key", N + 1)], qual := "KaitaiStream.process_xor_one.<locals>.", func := some 324, code := .ref 323, frame := some N, builtins := 0 }
def xoneFr (P : Params) (t : Tok) (d : Value) : Obj := { cls := .type "frame", data := .dict #[ent P "data" t d] 1 }
abbrev xoneGen : Expr := (callArgs (retVal (stmtAt (bodyOf xoneS) 1))).getD 0 (.Constant .none 0 default)
theorem newEnv_eq : @PySem.newFunctionEnv = @PySem.W.Fast.tw11113344188204177931 := PySem.W.Fast.te11113344188204177931
noncomputable def addrF (t : Sem Addr) : Sem Fin := t.bind fun v => .pure (.done (.ret (.ref v)))
abbrev AddrQ (Q : Addr → Shared → Prop) : Fin → Shared → Prop := fun fin s' => match fin with
  | .done (.ret (.ref v)) => Q v s'
  | _ => False
theorem wpAny_addrF {M : Model} {A : Around} {s : Shared} {t : Sem Addr} {Q : Addr → Shared → Prop} {E : Value → Shared → Prop} (h : wpAny M A (addrF t) (AddrQ Q) E s) : wpAny M A t Q E s := fun Γ p hΓ => by
  have z := h Γ p hΓ
  unfold addrF at z
  rw [show t.bind (fun v => Sem.pure (Fin.done (Flow.ret (.ref v)))) = (t >>= fun v => Sem.pure (Fin.done (Flow.ret (.ref v)))) from rfl, Sem.wp_bind'] at z
  simpa only [Sem.wp_pure] using z
/-- what a bytes-like value holds -/
def Src (h : Heap) (dv : Value) (os : List Int) : Prop := (∃ t, dv = .bytes (byteArr os) t) ∨ ∃ a, dv = .ref a ∧ h.get? a = some (BA.baO (byteArr os))
theorem byteArr_int {os : List Int} (hr : ∀ n ∈ os, 0 ≤ n ∧ n < 256) {i : Nat} {c : UInt8} (h : (byteArr os)[i]? = some c) : (c.toNat : Int) = os.getD i 0 := by
  have e := KBw.ints_get h
  rw [KBa.ints_make hr] at e
  rw [List.getD_eq_getElem?_getD, e]
  rfl
theorem iter_src {prog : Program} {w : World} {A : Around} {E : Value → Shared → Prop} {s : Shared} {Q : Value → Shared → Prop} {dv : Value} {os : List Int} (S : Src s.heap dv os) (hr : ∀ n ∈ os, 0 ≤ n ∧ n < 256)
    (hQ : ∀ I fp St it, I = s.heap.objs.size → (∀ A' : Around, A'.handled = none → Walks prog w A' I fp [I] os.length (fun i v => ∃ u, v = .int (os.getD i 0) u) St) → St 0 (s.heap.push it) → (∀ b ∈ fp, (∃ o, (s.heap.push it).get? b = some o) ∧ (b = I ∨ dv = .ref b)) →
      Q (.ref I) { s with heap := s.heap.push it }) : wpAny (model prog w) A (pyIter dv) Q E s := by
  rcases S with ⟨t, rfl⟩ | ⟨a, rfl, ho⟩
  · refine KBw.pyIter_bytes (hQ _ [s.heap.objs.size] (fun i h => KBw.IsBytesIter h s.heap.objs.size (byteArr os) t i) _ rfl (fun A' hA => ?_) ⟨_, Heap.get?_push_size _ rfl, rfl, rfl⟩ ?_)
    · have W := KBw.walks (prog := prog) (w := w) hA s.heap.objs.size (byteArr os) t
      rw [byteArr_size] at W
      exact { W with
        item := fun i s Q E hi hst h => W.item i s Q E hi hst fun v h' tk hv => h v h' tk (by obtain ⟨c, u, hc, rfl⟩ := hv; exact ⟨u, by rw [byteArr_int hr hc]⟩) }
    · intro b hb
      rw [List.mem_singleton.mp hb]
      exact ⟨⟨_, Heap.get?_push_size _ rfl⟩, .inl rfl⟩
  · have hlt := Heap.lt_size ho
    refine BA.pyIter_ba ho (hQ _ [s.heap.objs.size, a] (fun i h => BA.IsIt h s.heap.objs.size a i ∧ BA.From h a (byteArr os) i) _ rfl (fun A' hA => ?_) ⟨⟨_, Heap.get?_push_size _ rfl, rfl, rfl⟩, _, Heap.get?_push_of_some _ ho, rfl, fun _ _ => rfl⟩ ?_)
    · have W := BA.walks (prog := prog) (w := w) hA s.heap.objs.size a (Nat.ne_of_lt hlt) (byteArr os)
      rw [byteArr_size] at W
      exact { W with
        item := fun i s Q E hi hst h => W.item i s Q E hi hst fun v h' tk hv => h v h' tk (by obtain ⟨c, u, hc, rfl⟩ := hv; exact ⟨u, by rw [byteArr_int hr hc]⟩) }
    · intro b hb
      simp only [List.mem_cons, List.not_mem_nil, or_false] at hb
      rcases hb with rfl | rfl
      · exact ⟨⟨_, Heap.get?_push_size _ rfl⟩, .inl rfl⟩
      · exact ⟨⟨_, Heap.get?_push_of_some _ ho⟩, .inr rfl⟩
end Mine
end

section
open PySem PySem.W PySem.W.X PySem.Builtin PyProof.Rows
set_option maxRecDepth 100000
namespace Mine
def genPos : Expr → Pos
  | .GeneratorExp _ _ _ p => p
  | _ => default
def genScope : Expr → Scope
  | .GeneratorExp _ _ sc _ => sc
  | _ => default
abbrev tabO (p : Pos) (tb : Option Addr) : Obj := { cls := .none, data := .fields (match tb with | none => #[] | some c => #[rawInt p.line, rawInt p.col, .ref c]) }
theorem wpAny_execs1 {M : Model} {A : Around} {s : Shared} {l : List Stmt} {env : Env} {Q : Flow → Shared → Prop} {E : Value → Shared → Prop} (h : wpAny M A (flowF (execsX l env)) (FlowQ Q) E s) : wpAny M A (execs l env) Q E s := by
  rw [execs_eq]; exact wpAny_flowF h
theorem wpAny_eval1 {M : Model} {A : Around} {s : Shared} {e : Expr} {env : Env} {Q : Value → Shared → Prop} {E : Value → Shared → Prop} (h : wpAny M A (valF (evalX e env)) (ValQ Q) E s) : wpAny M A (eval e env) Q E s := by
  rw [eval_eq]; exact wpAny_valF h
section
variable {w : World} {b1 b2 : Bool} {A : Around}
theorem xone_bind (a b : Value) : bindArgs (fdOf ob324) ⟨[a, b], []⟩ = pure [(("data" : Str), a), (("key" : Str), b)] := by
  kernel_rfl
theorem xone_code (hh : A.handled = none) {N : Addr} {tb : Option Addr} {s : Shared} {Q : Value → Shared → Prop} {E : Value → Shared → Prop} (F : Fix (pb w.params b1 b2) s.heap) (T : s.heap.get? 319 = some (tabO (genPos xoneGen) tb))
    (hQ : ∀ h' tk c, Kp [319] s.heap h' → h'.get? 319 = some (tabO (genPos xoneGen) (some c)) → Q (.ref c) { s with heap := h', toks := tk }) :
    wpAny (model prg (wb w b1 b2)) A (genexprCode (xoneEnv N) (genPos xoneGen) ((xoneEnv N).qual ++ "<genexpr>") (genScope xoneGen)) Q E s := by
  have hL : ∀ x ∈ [(319, tabO (genPos xoneGen) tb), (323, ob323 (pb w.params b1 b2)), (2, ob2 (pb w.params b1 b2))], s.heap.get? x.1 = some x.2 := by
    simp only [List.mem_cons, List.not_mem_nil, or_false, forall_eq_or_imp, forall_eq]
    exact ⟨T, F.get 4, F.get 1⟩
  have hro : ∀ (L' : List (Addr × Obj)), (323, ob323 (pb w.params b1 b2)) ∈ L' → (2, ob2 (pb w.params b1 b2)) ∈ L' → ∀ b ∈ [319, 323, 2], b ∈ [319] ∨ ∃ o, s.heap.get? b = some o ∧ (b, o) ∈ L' := by
    intro L' m1 m2 b hb
    simp only [List.mem_cons, List.not_mem_nil, or_false] at hb
    rcases hb with rfl | rfl | rfl
    · simp
    · exact .inr ⟨_, F.get 4, m1⟩
    · exact .inr ⟨_, F.get 1, m2⟩
  rcases tb with _ | c
  · refine wpAny_valF (any_fin hh [(319, tabO (genPos xoneGen) none), (323, ob323 (pb w.params b1 b2)), (2, ob2 (pb w.params b1 b2))] 30 [1, 0, 3, 3, 3] (.done (.ret (.ref (s.heap.objs.size + 2)))) [3, 4, 5] [(319, tabO (genPos xoneGen) (some (s.heap.objs.size + 2))), (323, ob323 (pb w.params b1 b2)), (2, ob2 (pb w.params b1 b2))] 3 6 True hL (by simp) (fun _ _ _ _ _ => by kernel_rfl) trivial (by decide) ?_)
    intro h' H
    exact hQ _ _ _ (H.kpM _ (hro _ (by simp) (by simp))) (H.at 0 rfl)
  · refine wpAny_valF (any_fin hh [(319, tabO (genPos xoneGen) (some c)), (323, ob323 (pb w.params b1 b2)), (2, ob2 (pb w.params b1 b2))] 30 [1, 0] (.done (.ret (.ref c))) [0, 1, 2] [(319, tabO (genPos xoneGen) (some c)), (323, ob323 (pb w.params b1 b2)), (2, ob2 (pb w.params b1 b2))] 0 0 True hL (by simp) (fun _ _ _ _ _ => by kernel_rfl) trivial (by decide) ?_)
    intro h' H
    exact hQ _ _ _ (H.kpM _ (hro _ (by simp) (by simp))) (H.at 0 rfl)
theorem blt_for (hh : A.handled = none) {s : Shared} {Q : Addr → Shared → Prop} {E : Value → Shared → Prop} (F : Fix (pb w.params b1 b2) s.heap) (hQ : ∀ h' tk, Kp [] s.heap h' → Q 0 { s with heap := h', toks := tk }) :
    wpAny (model prg (wb w b1 b2)) A (builtinsFor 3 0) Q E s := by
  refine wpAny_addrF (any_fin hh [(3, ob3 (pb w.params b1 b2)), (4, ob4 (pb w.params b1 b2))] 20 [0, 1] (.done (.ret (.ref 0))) [0, 1] [(3, ob3 (pb w.params b1 b2)), (4, ob4 (pb w.params b1 b2))] 0 0 True ?_ (by simp) (fun _ _ _ _ _ => by kernel_rfl) trivial (by decide) ?_)
  · simp only [List.mem_cons, List.not_mem_nil, or_false, forall_eq_or_imp, forall_eq]
    exact ⟨F.get 2, F.get 3⟩
  · intro h' H
    refine hQ _ _ (H.kpM _ fun b hb => ?_)
    have : b ∈ [3, 4] := hb
    simp only [List.mem_cons, List.not_mem_nil, or_false] at this
    rcases this with rfl | rfl
    · exact .inr ⟨_, F.get 2, by simp⟩
    · exact .inr ⟨_, F.get 3, by simp⟩
theorem xone_elt (hh : A.handled = none) {c : Addr} {C c5 : Addr} {v : Value} {a key : Int} {u tk : Tok} {N : Addr} {s : Shared} {m : PySem.Str → Option Value} {E : Value → Shared → Prop} (hv : v = .int a u) (hn : s.heap.Ns C m) (hm : m "v" = some v) (hc : s.heap.get? c = some (cellO (some (.int key tk)))) :
    wpAny (model prg (wb w b1 b2)) A (eval (match xoneGen with | .GeneratorExp e _ _ _ => e | e => e) (genEnv (genScope xoneGen) [("key", c)] C (.ref c5) 0 (xoneEnv N))) (fun y s₃ => (∃ u, y = .int (Builtin.bitXor a key) u) ∧ Keeps s s₃) E s := by
  subst hv
  refine wpAny_BinOp (wpAny_Name (wpAny_loadName_local rfl (by kernel_rfl) hn hm ?_) (by decide +kernel))
  refine wpAny_eval1 (any_fin hh [(c, cellO (some (.int key tk)))] 8 [0] (.done (.ret (.int key tk))) [0] [(c, cellO (some (.int key tk)))] 0 0 True ?_ (by simp) (fun _ _ _ _ _ => by kernel_rfl) trivial (by decide) ?_)
  · simp only [List.mem_cons, List.not_mem_nil, or_false, forall_eq]
    exact hc
  intro h₁ H1
  have K1 : Kp [] s.heap h₁ := H1.kpM _ fun b hb => by
    rw [show b = c from List.mem_singleton.mp hb]
    exact .inr ⟨_, hc, by simp⟩
  refine wpAny_valF (any_fin hh [] 12 [] (.done (.ret (.int (Builtin.bitXor a key) s.toks))) [] [] 0 1 True (by simp) (by simp) (fun _ _ _ _ _ => by kernel_rfl) trivial (by decide) ?_)
  intro h₂ H2
  refine ⟨⟨_, rfl⟩, h₂, _, rfl, fun b o e => H2.keep b o (K1 b o e (by simp)) (by simp)⟩
/-- what a call of an xor leaves -/
structure Rel (M : List Addr) (s s' : Shared) : Prop where
  heap : Kp M s.heap s'.heap
  gens : AllBare s.gens → AllBare s'.gens
  drawn : s'.drawn = s.drawn
  os : s'.os = s.os
theorem passing_true (n : Nat) : passing (fun _ => true) n 0 = List.range n := by
  unfold passing
  simp
theorem allBare_step {a b : Array GenState} {gs : GenState} (h : AllBare a) (hg : gs.bare = true) (x : GenOnlyQ a.size (a.push gs) b) : AllBare b := (AllBare.push h hg).moved x
theorem xone_call (hh : A.handled = none) (hroom : A.depth + 4 < recursionLimit) {R : Result → Shared → Prop} {dv : Value} {key : Int} {tk : Tok} {tb : Option Addr} {os : List Int} {s : Shared} (hsz524 : 524 ≤ s.heap.objs.size) (F : Fix (pb w.params b1 b2) s.heap) (T : s.heap.get? 319 = some (tabO (genPos xoneGen) tb)) (S : Src s.heap dv os) (hr : ∀ n ∈ os, 0 ≤ n ∧ n < 256) (hos : os.length ≤ 8) (hkey : ∀ n ∈ os, 0 ≤ Builtin.bitXor n key ∧ Builtin.bitXor n key < 256)
    (hR : ∀ s' t c, Rel [319] s s' → s'.heap.get? 319 = some (tabO (genPos xoneGen) (some c)) → R (.ok (.ret (.bytes (byteArr (os.map fun o => Builtin.bitXor o key)) t))) s') :
    codeAny (model prg (wb w b1 b2)) A (.call (.ref 324) ⟨[dv, .int key tk], []⟩) R s := by
  refine codeAny_call_function (fd := fdOf ob324) (by omega) (F.get 7) rfl rfl rfl rfl ⟨323, _, _, _, rfl, F.get 4, rfl, rfl⟩ ?_
  refine wpAny_of_eq (xone_bind _ _) ?_
  rw [newEnv_eq]
  refine wpAny_envF (any_fin hh [] 8 [1, 1, 0, 0] (.again (.func [] (xoneEnv s.heap.objs.size))) [0, 1] [(s.heap.objs.size + 1, cellO (some (.int key tk))), (s.heap.objs.size, xoneFr (pb w.params b1 b2) s.toks dv)] 2 1 True (by simp) (by simp) (fun _ _ _ _ _ => by kernel_rfl) trivial (by decide) ?_)
  intro h₁ H
  have K1 : Kp [] s.heap h₁ := H.kpM _ fun b hb => by cases hb
  have F1 := F.keep K1 (fun a ha => by cases ha)
  refine ⟨nolimit_ob2 (F1.get 1), codeAny_func ?_⟩
  have hhd : (A.deeper (xoneEnv s.heap.objs.size)).handled = none := hh
  show wpAny _ _ (execs ([stmtAt (bodyOf xoneS) 0] ++ [stmtAt (bodyOf xoneS) 1]) _) _ _ _
  have ro30 : ∀ {h : Heap}, Fix (pb w.params b1 b2) h → ∀ b ∈ [(3 : Addr), 0], b ∈ ([] : List Addr) ∨ ∃ o, h.get? b = some o ∧ (b, o) ∈ [((3 : Addr), ob3 (pb w.params b1 b2)), (0, ob0 (pb w.params b1 b2))] := by
    intro h F b hb
    simp only [List.mem_cons, List.not_mem_nil, or_false] at hb
    rcases hb with rfl | rfl
    · exact .inr ⟨_, F.get 2, by simp⟩
    · exact .inr ⟨_, F.get 0, by simp⟩
  refine wpAny_execs_append _ _ (wpAny_execs1 (any_fin hhd [(3, ob3 (pb w.params b1 b2)), (0, ob0 (pb w.params b1 b2))] 12 [0, 0] (.done .next) [0, 1] [(3, ob3 (pb w.params b1 b2)), (0, ob0 (pb w.params b1 b2))] 0 0 True ?_ (by simp) (fun _ _ _ _ _ => by kernel_rfl) trivial (by decide) ?_))
  · simp only [List.mem_cons, List.not_mem_nil, or_false, forall_eq_or_imp, forall_eq]
    exact ⟨F1.get 2, F1.get 0⟩
  intro h₂ H2
  have K2 : Kp [] h₁ h₂ := H2.kpM _ (ro30 F1)
  have F2 := F1.keep K2 (fun a ha => by cases ha)
  refine wpAny_execs_cons (wpAny_Return_some (wpAny_Call_NameR (wpAny_eval1 (any_fin hhd [(3, ob3 (pb w.params b1 b2)), (0, ob0 (pb w.params b1 b2))] 12 [0, 1] (.done (.ret (.type "bytes"))) [0, 1] [(3, ob3 (pb w.params b1 b2)), (0, ob0 (pb w.params b1 b2))] 0 0 True ?_ (by simp) (fun _ _ _ _ _ => by kernel_rfl) trivial (by decide) ?_))))
  · simp only [List.mem_cons, List.not_mem_nil, or_false, forall_eq_or_imp, forall_eq]
    exact ⟨F2.get 2, F2.get 0⟩
  intro h₃ H3
  have K3 : Kp [] s.heap h₃ := (K1.trans K2).trans (H3.kpM _ (ro30 F2))
  have K23 : Kp [] h₁ h₃ := K2.trans (H3.kpM _ (ro30 F2))
  have nil : ∀ a : Addr, a ∉ ([] : List Addr) := fun a => by simp
  refine PySem.callWith_type1 (t := eval xoneGen (xoneEnv s.heap.objs.size)) ?_
  refine wpAny_GeneratorExp_walksQD (cl := [("key", s.heap.objs.size + 1)]) hhd rfl (by kernel_rfl) (by simp) (by decide +kernel) (by decide +kernel) rfl (by show A.depth + 1 < _; omega) (wpAny_eval1 (any_fin hhd [(s.heap.objs.size, xoneFr (pb w.params b1 b2) s.toks dv)] 8 [0] (.done (.ret dv)) [0] [(s.heap.objs.size, xoneFr (pb w.params b1 b2) s.toks dv)] 0 0 True ?_ (by simp) (fun _ _ _ _ _ => by kernel_rfl) trivial (by decide) ?_)) (fun _ => rfl)
  · simp only [List.mem_cons, List.not_mem_nil, or_false, forall_eq]
    exact K23 _ _ (H.at 1 rfl) (nil _)
  · intro h₄ H4
    have K4' : Kp [] h₃ h₄ := H4.kpM _ fun b hb => by
      rw [show b = s.heap.objs.size from List.mem_singleton.mp hb]
      exact .inr ⟨_, K23 _ _ (H.at 1 rfl) (nil _), by simp⟩
    have K4 : Kp [] s.heap h₄ := K3.trans K4'
    have S4 : Src h₄ dv os := by
      rcases S with ⟨t, e⟩ | ⟨a, e1, e2⟩
      · exact .inl ⟨t, e⟩
      · exact .inr ⟨a, e1, K4 _ _ e2 (nil _)⟩
    refine iter_src (os := os) S4 hr fun I fp St it hI hW hst hfp => ?_
    have K5 : Kp [] h₄ (h₄.push it) := fun b o e _ => Heap.get?_push_of_some _ e
    have K05 := K4.trans K5
    have F5 := F.keep K05 (fun a ha => by cases ha)
    refine ⟨nolimit_ob2 (F5.get 1), ?_⟩
    refine xone_code hhd F5 (K05 _ _ T (nil _)) fun h₆ tk6 c6 K6 T6 => ?_
    have K06 : Kp [319] s.heap h₆ := (K05.mono fun _ h => by cases h).trans K6
    have hb5 : 524 ≤ s.heap.objs.size := hsz524
    have ne319 : ∀ b ∈ fp, b ∉ [(319 : Addr)] := fun b hb hm => by
      have e : b = 319 := List.mem_singleton.mp hm
      rcases (hfp b hb).2 with h | h
      · rw [e] at h
        have : 319 < h₄.objs.size := Heap.lt_size (K4 _ _ T (nil _))
        rw [h, hI] at this
        exact Nat.lt_irrefl _ this
      · rcases S with ⟨t, e1⟩ | ⟨a, e1, e2⟩
        · rw [e1] at h; cases h
        · rw [e1] at h
          cases h
          rw [e, T] at e2
          have := congrArg Obj.cls (Option.some.inj e2)
          cases this
    have F6 := F.keepX K06 (by decide)
    refine blt_for hhd F6 fun h₇ tk7 K7 => ?_
    have F7 := F6.keep K7 (fun a ha => by cases ha)
    have K67 : Kp [319] (h₄.push it) h₇ := K6.trans (K7.mono fun _ h => by cases h)
    have hc1 : s.heap.objs.size + 1 ∉ [(319 : Addr)] := fun hm => by
      have e : s.heap.objs.size + 1 = 319 := List.mem_singleton.mp hm
      have : 524 ≤ s.heap.objs.size := hsz524
      omega
    have hcell : h₇.get? (s.heap.objs.size + 1) = some (cellO (some (.int key tk))) := K67 _ _ (K5 _ _ (K4' _ _ (K23 _ _ (H.at 0 rfl) (nil _)) (nil _)) (nil _)) hc1
    have hI2 : ∀ b o, h₄.get? b = some o → b ≠ I := fun b o e h => absurd (Heap.lt_size e) (by rw [h, hI]; exact Nat.lt_irrefl _)
    refine ⟨I, fp, [I], os.length, _, St, fun _ => true, fun i v => ∃ u, v = .int (Builtin.bitXor (os.getD i 0) key) u, rfl, hW, (hW A hh).frame _ _ _ hst (fun b hb o e => K67 _ _ e (ne319 b hb)), ?_, nolimit_ob2 (F7.get 1), ?_, ?_, ?_⟩
    · intro b hb
      obtain ⟨⟨o, e⟩, _⟩ := hfp b hb
      exact Heap.lt_size (K67 _ _ e (ne319 b hb))
    · intro hm
      exact hI2 2 _ (K4 _ _ (F.get 1) (nil _)) (List.mem_singleton.mp hm)
    · intro href hhref
      refine ⟨?_, ?_⟩
      · intro A' E' i v s₂ m₂ q1 q2 q3 q4 q5 q6 q7
        exact wpAny_pure ⟨rfl, s₂.heap, s₂.toks, rfl, fun _ _ e => e⟩
      · intro A' E' i v s₂ m₂ q1 q2 q3 ⟨u, q4⟩ _ q5 q6 q7
        refine xone_elt (b1 := b1) (b2 := b2) (w := w) q1 (c := s.heap.objs.size + 1) (key := key) (tk := tk) q4 q5 q6 (q7 _ (List.mem_range.mpr (Heap.lt_size hcell)) (fun hm => ?_) _ (hhref _ _ hcell))
        exact hI2 _ _ (K4' _ _ (K23 _ _ (H.at 0 rfl) (nil _)) (nil _)) (List.mem_singleton.mp hm)
    · intro a h₈ tk8 gs hgs hsz hsz2 K8 W8 hst8
      obtain ⟨⟨⟨c9, d9, dt9, sl9⟩, nm, qn, g1, g2, g3, g4⟩, _⟩ := id hst8
      cases g2; cases g3; cases g4
      have hlen : (passing (fun _ => true) os.length 0).length = os.length := by rw [passing_true]; simp
      refine call_bytes_gen hhd g1 W8 hst8 ?_ (ns := os.map fun o => Builtin.bitXor o key) (by rw [hlen]; simp) ?_ ?_ ?_ ?_
      · intro b hb
        show b < h₈.objs.size
        rw [hsz2]
        rcases List.mem_cons.mp hb with rfl | hb
        · exact Nat.lt_succ_self _
        · refine Nat.lt_succ_of_lt (Nat.lt_of_le_of_lt ?_ hsz)
          rcases List.mem_cons.mp hb with rfl | hb
          · exact Nat.le_refl _
          · exact Nat.le_of_lt (List.mem_range.mp hb)
      · rintro j v ⟨i, hi, u, rfl⟩
        rw [passing_true] at hi
        obtain ⟨hj, hji⟩ := List.getElem?_eq_some_iff.mp hi
        simp only [List.getElem_range] at hji
        subst hji
        rw [List.length_range] at hj
        refine ⟨u, ?_⟩
        simp [List.getD_eq_getElem?_getD, hj]
      · intro n hn
        obtain ⟨o, ho, rfl⟩ := List.mem_map.mp hn
        exact hkey o ho
      · rw [List.length_map]
        exact Nat.le_trans hos (by decide +kernel)
      · intro s' t hm
        have K : Kp [h₇.objs.size, I, 319] s.heap s'.heap := fun b o e hn => by
          simp only [List.mem_cons, List.not_mem_nil, or_false, not_or] at hn
          refine hm.heap b o ?_ (K8 _ _ (K67 _ _ (K05 _ _ e (nil _)) (by simp [hn.2.2])))
          simp only [List.mem_cons, List.not_mem_nil, or_false, not_or]
          exact ⟨hn.1, hn.2.1⟩
        have n7 : s.heap.get? h₇.objs.size = none := by
          refine ((K05.mono fun _ h => by cases h).trans K67 : Kp [319] s.heap h₇).fresh (fun b hb => ?_) (Nat.le_refl _)
          rw [List.mem_singleton.mp hb]
          exact ⟨_, K7 _ _ T6 (nil _)⟩
        have nI : s.heap.get? I = none := K4.fresh (fun b hb => by cases hb) (Nat.le_of_eq hI.symm)
        refine hR s' t c6 ⟨(K.drop n7).drop nI, fun hg => allBare_step hg hgs hm.gens, hm.drawn, hm.os⟩ ?_
        have T7 := K7 _ _ T6 (nil _)
        refine hm.heap 319 _ ?_ (K8 _ _ T7)
        simp only [List.mem_cons, List.not_mem_nil, or_false, not_or]
        refine ⟨fun e => absurd (Heap.lt_size T7) (by rw [e]; exact Nat.lt_irrefl _), ?_⟩
        exact fun e => hI2 319 _ (K4 _ _ T (nil _)) e
end
end Mine
end

section
open PySem PySem.W PySem.W.X PySem.Builtin PyProof.Rows
set_option maxRecDepth 100000
namespace Mine
section
variable {prog : Program} {w : World} {A : Around} {E : Value → Shared → Prop} {s : Shared}
theorem stop_made (hh : A.handled = none) {h : Heap} {it : Addr} {Q : Value → Shared → Prop} (hk : Heap.ExtBut it s.heap h)
    (hE : ∀ h' e, Heap.ExtBut it s.heap h' → (∃ o, h'.get? e = some o ∧ o.cls = .type "StopIteration") → E (.ref e) { s with heap := h' }) :
    wpAny (model prog w) A (newExc (.type "StopIteration") [] >>= fun e => (raiseNew e : Sem Value)) Q E { s with heap := h } := by
  refine wpAny_bind ?_
  simp only [newExc, newTuple]
  refine wpAny_bind (wpAny_newObj_type ?_ (by size_fits))
  refine wpAny_bind (m := firstArgMember _ _) (wpAny_of_eq (a := Value.none) (by first | rfl | (simp only [firstArgMember]; rfl)) ?_)
  refine wpAny_newObj_type ?_ (by size_fits)
  simp only [raiseNew]
  refine wpAny_bind (wpAny_handled ?_)
  rw [hh]
  refine wpAny_bind (wpAny_pure (wpAny_throw ?_))
  exact hE _ _ ((hk.push _).push _) ⟨_, Heap.get?_push_size _ rfl, rfl⟩
theorem draws_ba (hh : A.handled = none) (it a : Addr) (hne : a ≠ it) (b : Array UInt8) :
    Draws prog w A it [it, a] b.size (fun i v => ∃ c u, b[i]? = some c ∧ v = .int (c.toNat : Int) u) (fun i h => BA.IsIt h it a i ∧ BA.From h a b i) where
  live := fun _ _ st => let ⟨o, ho, _⟩ := st.1; ⟨o, ho⟩
  frame := fun i _ _ st hk => ⟨let ⟨o, ho, r⟩ := st.1; ⟨o, hk it (by simp) o ho, r⟩, st.2.keep (Nat.le_refl _) fun o e => hk a (by simp) o e⟩
  item := fun i s Q E hi st hQ => by
    obtain ⟨st1, b', e1, e2, e3⟩ := st
    obtain ⟨o, ho, hc, hd⟩ := id st1
    unfold Builtin.SmallTypes.nextOf
    refine wpAny_bind (wpAny_callSpecial?_slot (name := PySem.Str.ofString "__next__") (BA.it_typeIs st1) BA.slot_next
      (wpAny_call_entry BA.slot_next (BA.it_typeIs st1) BA.entry_next ?_ (BA.args_next _)))
    show wpAny _ _ (field (.ref it) 0 >>= _) _ _ s
    refine wpAny_bind (wpAny_field ho hd (x := .ref a) rfl ?_)
    show wpAny _ _ (load a >>= _) _ _ s
    refine wpAny_bind (wpAny_load e1 ?_)
    show wpAny _ _ (field (.ref it) 1 >>= _) _ _ s
    refine wpAny_bind (wpAny_field ho hd (x := .int i 0) rfl ?_)
    have hx : b'[i]? = some b[i] := by rw [e3 i (Nat.le_refl _)]; simp [hi]
    simp only [Int.toNat_natCast, hx]
    refine wpAny_bind (wpAny_setField ho hd (by simp) (wpAny_bind (wpAny_mkInt (wpAny_pure ⟨_, rfl, wpAny_pure (hQ _ _ _ ⟨_, _, by simp [hi], rfl⟩ ⟨?_, ?_⟩ (Heap.SameBut.update ..))⟩))))
    · exact ⟨_, Heap.get?_update_self _ ho (Obj.isFreed_of_fields (Obj.data_mapFields hd _)), (Obj.cls_mapFields ..).trans hc, by
        rw [Obj.data_mapFields hd]; simp [rawInt]⟩
    · exact BA.From.keep ⟨b', e1, e2, e3⟩ (Nat.le_succ _) fun o e => (Heap.get?_update_other _ _ hne.symm).trans e
  done := fun s Q E st hE => by
    obtain ⟨st1, b', e1, e2, e3⟩ := st
    obtain ⟨o, ho, hc, hd⟩ := id st1
    unfold Builtin.SmallTypes.nextOf
    refine wpAny_bind (wpAny_callSpecial?_slot (name := PySem.Str.ofString "__next__") (BA.it_typeIs st1) BA.slot_next
      (wpAny_call_entry BA.slot_next (BA.it_typeIs st1) BA.entry_next ?_ (BA.args_next _)))
    show wpAny _ _ (field (.ref it) 0 >>= _) _ _ s
    refine wpAny_bind (wpAny_field ho hd (x := .ref a) rfl ?_)
    show wpAny _ _ (load a >>= _) _ _ s
    refine wpAny_bind (wpAny_load e1 ?_)
    show wpAny _ _ (field (.ref it) 1 >>= _) _ _ s
    refine wpAny_bind (wpAny_field ho hd (x := .int b.size 0) rfl ?_)
    have hx : b'[b.size]? = none := by rw [e3 _ (Nat.le_refl _)]; simp
    simp only [Int.toNat_natCast, hx]
    refine wpAny_bind (wpAny_rule (wpAny_bind (wpAny_setField ho hd (by simp) ?_)))
    refine wpAny_bind (wpAny_letGo ?_)
    show wpAny _ _ (newExc (.type "StopIteration") [] >>= _) _ _ _
    refine wpAny_bind ?_
    simp only [newExc, newTuple]
    refine wpAny_bind (wpAny_newObj_type ?_ (by size_fits))
    refine wpAny_bind (m := firstArgMember _ _) (wpAny_of_eq (a := Value.none) (by first | rfl | (simp only [firstArgMember]; rfl)) ?_)
    refine wpAny_newObj_type ?_ (by size_fits)
    simp only [raiseNew]
    refine wpAny_bind (wpAny_handled ?_)
    first | rw [show A.in1.handled = none from hh] | rw [hh]
    refine wpAny_bind (wpAny_pure (wpAny_throw ?_))
    exact hE _ _ (((Heap.SameBut.update ..).extBut.push _).push _) ⟨_, Heap.get?_push_size _ rfl, rfl⟩
theorem draws_by (hh : A.handled = none) (it : Addr) (b : Array UInt8) (t : Tok) :
    Draws prog w A it [it] b.size (fun i v => ∃ c u, b[i]? = some c ∧ v = .int (c.toNat : Int) u) (fun i h => KBw.IsBytesIter h it b t i) where
  live := fun _ _ st => let ⟨o, ho, _⟩ := st; ⟨o, ho⟩
  frame := fun _ _ _ st hk => let ⟨o, ho, r⟩ := st; ⟨o, hk it (by simp) o ho, r⟩
  item := fun i s Q E hi st hQ => by
    obtain ⟨o, ho, hc, hd⟩ := id st
    unfold Builtin.SmallTypes.nextOf
    refine wpAny_bind (wpAny_callSpecial?_slot (name := PySem.Str.ofString "__next__") (KBw.iter_typeIs st) KBw.slot_next
      (wpAny_call_entry KBw.slot_next (KBw.iter_typeIs st) KBw.entry_next ?_ (KBw.args_next _)))
    show wpAny _ _ (field (.ref it) 0 >>= _) _ _ s
    refine wpAny_bind (wpAny_field ho hd (x := .bytes b t) rfl ?_)
    show wpAny _ _ (if (Value.bytes b t == Value.none) = true then _ else _) _ _ s
    rw [if_neg (show ¬ ((Value.bytes b t == Value.none) = true) from Bool.false_ne_true)]
    show wpAny _ _ (field (.ref it) 1 >>= _) _ _ s
    refine wpAny_bind (wpAny_field ho hd (x := .int i 0) rfl ?_)
    refine wpAny_bind (wpAny_of_eq (a := b) rfl ?_)
    have hx : b[i]? = some b[i] := by simp [hi]
    simp only [Int.toNat_natCast, hx]
    refine wpAny_bind (wpAny_setField ho hd (by simp) (wpAny_bind (wpAny_mkInt (wpAny_pure ⟨_, rfl, wpAny_pure (hQ _ _ _ ⟨_, _, by simp [hi], rfl⟩ ?_ (Heap.SameBut.update ..))⟩))))
    exact ⟨_, Heap.get?_update_self _ ho (Obj.isFreed_of_fields (Obj.data_mapFields hd _)), (Obj.cls_mapFields ..).trans hc, by
      rw [Obj.data_mapFields hd]; simp [rawInt]⟩
  done := fun s Q E st hE => by
    obtain ⟨o, ho, hc, hd⟩ := id st
    unfold Builtin.SmallTypes.nextOf
    refine wpAny_bind (wpAny_callSpecial?_slot (name := PySem.Str.ofString "__next__") (KBw.iter_typeIs st) KBw.slot_next
      (wpAny_call_entry KBw.slot_next (KBw.iter_typeIs st) KBw.entry_next ?_ (KBw.args_next _)))
    show wpAny _ _ (field (.ref it) 0 >>= _) _ _ s
    refine wpAny_bind (wpAny_field ho hd (x := .bytes b t) rfl ?_)
    show wpAny _ _ (if (Value.bytes b t == Value.none) = true then _ else _) _ _ s
    rw [if_neg (show ¬ ((Value.bytes b t == Value.none) = true) from Bool.false_ne_true)]
    show wpAny _ _ (field (.ref it) 1 >>= _) _ _ s
    refine wpAny_bind (wpAny_field ho hd (x := .int b.size 0) rfl ?_)
    refine wpAny_bind (wpAny_of_eq (a := b) rfl ?_)
    have hx : b[b.size]? = none := by simp
    simp only [Int.toNat_natCast, hx]
    refine wpAny_bind (wpAny_rule (wpAny_bind (wpAny_setField ho hd (by simp) ?_)))
    show wpAny _ _ (newExc (.type "StopIteration") [] >>= _) _ _ _
    refine wpAny_bind ?_
    simp only [newExc, newTuple]
    refine wpAny_bind (wpAny_newObj_type ?_ (by size_fits))
    refine wpAny_bind (m := firstArgMember _ _) (wpAny_of_eq (a := Value.none) (by first | rfl | (simp only [firstArgMember]; rfl)) ?_)
    refine wpAny_newObj_type ?_ (by size_fits)
    simp only [raiseNew]
    refine wpAny_bind (wpAny_handled ?_)
    first | rw [show A.in1.handled = none from hh] | rw [hh]
    refine wpAny_bind (wpAny_pure (wpAny_throw ?_))
    exact hE _ _ (((Heap.SameBut.update ..).extBut.push _).push _) ⟨_, Heap.get?_push_size _ rfl, rfl⟩
end
end Mine
end

section
open PySem PySem.W PySem.W.X PySem.Builtin PyProof.Rows
set_option maxRecDepth 100000
namespace Mine
structure ZApart (z TI TO i1 i2 : Addr) (fp1 fp2 : List Addr) : Prop where
  TIz : TI ≠ z
  TOz : TO ≠ z
  TITO : TI ≠ TO
  z1 : z ∉ fp1
  z2 : z ∉ fp2
  TO1 : TO ∉ fp1
  TO2 : TO ∉ fp2
  TI1 : TI ∉ fp1
  TI2 : TI ∉ fp2
  i1m : i1 ∈ fp1
  i2m : i2 ∈ fp2
  i1n : i1 ∉ fp2
  i2n : i2 ∉ fp1
theorem ne_of_mem {a b : Addr} {l : List Addr} (h : b ∈ l) (hn : a ∉ l) : a ≠ b := fun e => hn (e ▸ h)
theorem st_but {prog : Program} {w : World} {A : Around} {it : Addr} {fp : List Addr} {n : Nat} {P : Nat → Value → Prop} {St : Nat → Heap → Prop} (D : Draws prog w A it fp n P St) {i : Nat} {h h' : Heap} {x : Addr} (hst : St i h) (hs : Heap.SameBut x h h') (hx : x ∉ fp) : St i h' :=
  D.frame i h h' hst fun b hb o e => hs.extBut b o (fun q => hx (q ▸ hb)) e
section
variable {prog : Program} {w : World} {A : Around} {E : Value → Shared → Prop}
variable {z TI TO i1 i2 : Addr} {fp1 fp2 : List Addr} {n1 n2 : Nat} {P1 P2 : Nat → Value → Prop} {St1 St2 : Nat → Heap → Prop}
theorem zipD_item {s : Shared} {i : Nat} {a b : Value} {Q : Value → Shared → Prop} (D1 : Draws prog w A i1 fp1 n1 P1 St1) (D2 : Draws prog w A i2 fp2 n2 P2 St2) (D : ZApart z TI TO i1 i2 fp1 fp2)
    (hz : IsZip s.heap z TI TO .none) (hTI : IsPair s.heap TI (.ref i1) (.ref i2)) (hTO : IsPair s.heap TO a b) (h1 : St1 i s.heap) (h2 : St2 i s.heap) (hx : i < n1) (hy : i < n2)
    (hQ : ∀ h' tk (T : Addr) x y, IsZip h' z TI TO (rawInt T) → IsPair h' TO x y → St1 (i + 1) h' → St2 (i + 1) h' → IsPair h' T x y → P1 i x → P2 i y → T ≠ z → T ≠ TO → T ≠ i1 → T ≠ i2 →
      (∀ c o, c ≠ z → c ≠ TO → c ≠ i1 → c ≠ i2 → s.heap.get? c = some o → h'.get? c = some o) → Q (.ref T) { s with heap := h', toks := tk }) :
    wpAny (model prog w) A (Builtin.«zip.__next__» ⟨[.ref z], []⟩) (fun fin s' => ∃ v, fin = .done (.ret v) ∧ Q v s') E s := by
  have n1z : z ≠ i1 := ne_of_mem D.i1m D.z1
  have n2z : z ≠ i2 := ne_of_mem D.i2m D.z2
  have nT1 : TO ≠ i1 := ne_of_mem D.i1m D.TO1
  have nT2 : TO ≠ i2 := ne_of_mem D.i2m D.TO2
  show wpAny _ _ (field (.ref z) 2 >>= _) _ _ _
  refine wpAny_bind (wpAny_field hz rfl (x := .bool false) rfl ?_)
  show wpAny _ _ (field (.ref z) 3 >>= _) _ _ _
  refine wpAny_bind (wpAny_field hz rfl (x := .ref TI) rfl ?_)
  refine wpAny_bind (wpAny_seqItems hTI rfl ?_)
  show wpAny _ _ (Builtin.SmallTypes.ownedTupleIsFree (.ref z) >>= _) _ _ _
  refine wpAny_bind ?_
  unfold Builtin.SmallTypes.ownedTupleIsFree
  refine wpAny_bind (wpAny_field hz rfl (x := .none) rfl (wpAny_pure ?_))
  simp only [if_true]
  refine wpAny_bind (wpAny_rule ?_)
  refine wpAny_bind (wpAny_field hz rfl (x := .ref TO) rfl ?_)
  refine wpAny_bind (wpAny_setField_rec hz (by simp) fun h₁ hz₁ hs₁ => ?_)
  replace hz₁ : IsZip h₁ z TI TO .ellipsis := hz₁
  refine wpAny_bind ?_
  simp only [List.zipIdx_cons, List.zipIdx_nil, List.forIn_cons, List.forIn_nil]
  refine wpAny_bind (wpAny_bind (wpAny_onRaise ?_))
  show wpAny _ _ (Builtin.SmallTypes.nextOf (.ref i1) >>= _) _ _ _
  refine wpAny_bind (D1.item i _ _ _ hx (st_but D1 h1 hs₁ D.z1) fun x h₂ tk₂ hP1 h1₂ hs₂ => wpAny_pure ?_)
  have hTO₂ : IsPair h₂ TO a b := hs₂.extBut _ _ nT1 (hs₁.extBut _ _ D.TOz hTO)
  refine wpAny_bind (wpAny_seqItems hTO₂ rfl ?_)
  refine wpAny_bind (wpAny_updateSeq_pair hTO₂ fun h₃ hTO₃ hs₃ => ?_)
  replace hTO₃ : IsPair h₃ TO x b := hTO₃
  refine wpAny_bind (wpAny_letGo (wpAny_pure ?_))
  refine wpAny_bind (wpAny_bind (wpAny_onRaise ?_))
  show wpAny _ _ (Builtin.SmallTypes.nextOf (.ref i2) >>= _) _ _ _
  refine wpAny_bind (D2.item i _ _ _ hy (st_but D2 (st_but D2 (st_but D2 h2 hs₁ D.z2) hs₂ D.i1n) hs₃ D.TO2) fun y h₄ tk₄ hP2 h2₄ hs₄ => wpAny_pure ?_)
  have hTO₄ : IsPair h₄ TO x b := hs₄.extBut _ _ nT2 hTO₃
  refine wpAny_bind (wpAny_seqItems hTO₄ rfl ?_)
  refine wpAny_bind (wpAny_updateSeq_pair hTO₄ fun h₅ hTO₅ hs₅ => ?_)
  replace hTO₅ : IsPair h₅ TO x y := hTO₅
  refine wpAny_bind (wpAny_letGo (wpAny_pure (wpAny_pure ?_)))
  refine wpAny_bind (wpAny_seqItems hTO₅ rfl ?_)
  refine wpAny_bind (wpAny_newTuple ?_)
  have hz₅ : IsZip h₅ z TI TO .ellipsis := hs₅.extBut _ _ D.TOz.symm (hs₄.extBut _ _ n2z (hs₃.extBut _ _ D.TOz.symm (hs₂.extBut _ _ n1z hz₁)))
  have hk₅ : ∀ c o, c ≠ z → c ≠ TO → c ≠ i1 → c ≠ i2 → s.heap.get? c = some o → h₅.get? c = some o := fun c o c1 c2 c3 c4 e =>
    hs₅.extBut _ _ c2 (hs₄.extBut _ _ c4 (hs₃.extBut _ _ c2 (hs₂.extBut _ _ c3 (hs₁.extBut _ _ c1 e))))
  have h1₅ : St1 (i + 1) h₅ := st_but D1 (st_but D1 (st_but D1 h1₂ hs₃ D.TO1) hs₄ D.i2n) hs₅ D.TO1
  have h2₅ : St2 (i + 1) h₅ := st_but D2 h2₄ hs₅ D.TO2
  have hzlt : z < h₅.objs.size := Heap.lt_size hz₅
  have hTOlt : TO < h₅.objs.size := Heap.lt_size hTO₅
  have hi1lt : i1 < h₅.objs.size := by obtain ⟨_, e⟩ := D1.live _ _ h1₅; exact Heap.lt_size e
  have hi2lt : i2 < h₅.objs.size := by obtain ⟨_, e⟩ := D2.live _ _ h2₅; exact Heap.lt_size e
  show wpAny _ _ (Builtin.SmallTypes.ownedTupleHandOut (.ref z) (.ref h₅.objs.size) >>= _) _ _ _
  refine wpAny_bind ?_
  unfold Builtin.SmallTypes.ownedTupleHandOut
  have hz₆ : IsZip (h₅.push { cls := .type "tuple", data := .seq #[x, y] }) z TI TO .ellipsis := Heap.get?_push_of_some _ hz₅
  refine wpAny_bind (wpAny_setField_rec hz₆ (by simp) fun h₇ hz₇ hs₇ => ?_)
  replace hz₇ : IsZip h₇ z TI TO (rawInt h₅.objs.size) := hz₇
  refine wpAny_setField_rec hz₇ (by simp) fun h₈ hz₈ hs₈ => ?_
  replace hz₈ : IsZip h₈ z TI TO (rawInt h₅.objs.size) := hz₈
  have up : ∀ c o, c ≠ z → h₅.get? c = some o → h₈.get? c = some o := fun c o c1 e => hs₈.extBut _ _ c1 (hs₇.extBut _ _ c1 (Heap.get?_push_of_some _ e))
  have hT₈ : IsPair h₈ h₅.objs.size x y := hs₈.extBut _ _ (Nat.ne_of_gt hzlt) (hs₇.extBut _ _ (Nat.ne_of_gt hzlt) (Heap.get?_push_size _ rfl))
  refine wpAny_pure ⟨_, rfl, ?_⟩
  exact hQ h₈ _ h₅.objs.size x y hz₈ (up _ _ D.TOz hTO₅) (D1.frame _ _ _ h1₅ fun b hb o e => up b o (fun q => D.z1 (q ▸ hb)) e) (D2.frame _ _ _ h2₅ fun b hb o e => up b o (fun q => D.z2 (q ▸ hb)) e) hT₈ hP1 hP2
    (Nat.ne_of_gt hzlt) (Nat.ne_of_gt hTOlt) (Nat.ne_of_gt hi1lt) (Nat.ne_of_gt hi2lt) fun c o c1 c2 c3 c4 e => up c o c1 (hk₅ c o c1 c2 c3 c4 e)
theorem zipD_end {s : Shared} {a b : Value} {Q : Fin → Shared → Prop} (D1 : Draws prog w A i1 fp1 n1 P1 St1) (D : ZApart z TI TO i1 i2 fp1 fp2)
    (hz : IsZip s.heap z TI TO .none) (hTI : IsPair s.heap TI (.ref i1) (.ref i2)) (hTO : IsPair s.heap TO a b) (h1 : St1 n1 s.heap)
    (hE : ∀ h' e, (∀ c o, c ≠ z → c ≠ TO → c ≠ i1 → c ≠ i2 → s.heap.get? c = some o → h'.get? c = some o) → (∃ o, h'.get? e = some o ∧ o.cls = .type "StopIteration") → E (.ref e) { s with heap := h' }) :
    wpAny (model prog w) A (Builtin.«zip.__next__» ⟨[.ref z], []⟩) Q E s := by
  show wpAny _ _ (field (.ref z) 2 >>= _) _ _ _
  refine wpAny_bind (wpAny_field hz rfl (x := .bool false) rfl ?_)
  show wpAny _ _ (field (.ref z) 3 >>= _) _ _ _
  refine wpAny_bind (wpAny_field hz rfl (x := .ref TI) rfl ?_)
  refine wpAny_bind (wpAny_seqItems hTI rfl ?_)
  show wpAny _ _ (Builtin.SmallTypes.ownedTupleIsFree (.ref z) >>= _) _ _ _
  refine wpAny_bind ?_
  unfold Builtin.SmallTypes.ownedTupleIsFree
  refine wpAny_bind (wpAny_field hz rfl (x := .none) rfl (wpAny_pure ?_))
  simp only [if_true]
  refine wpAny_bind (wpAny_rule ?_)
  refine wpAny_bind (wpAny_field hz rfl (x := .ref TO) rfl ?_)
  refine wpAny_bind (wpAny_setField_rec hz (by simp) fun h₁ hz₁ hs₁ => ?_)
  replace hz₁ : IsZip h₁ z TI TO .ellipsis := hz₁
  refine wpAny_bind ?_
  simp only [List.zipIdx_cons, List.zipIdx_nil, List.forIn_cons, List.forIn_nil]
  refine wpAny_bind (wpAny_bind (wpAny_onRaise ?_))
  show wpAny _ _ (Builtin.SmallTypes.nextOf (.ref i1) >>= _) _ _ _
  refine wpAny_bind (D1.done _ _ _ (st_but D1 h1 hs₁ D.z1) fun h₂ e hs₂ he => ?_)
  obtain ⟨oe, hoe, hce⟩ := he
  have hz₂ : IsZip h₂ z TI TO .ellipsis := hs₂ _ _ (ne_of_mem D.i1m D.z1) hz₁
  have hez : e ≠ z := fun x => by subst x; rw [hz₂] at hoe; cases hoe; simp at hce
  refine wpAny_setField_rec hz₂ (by simp) fun h₃ _ hs₃ => hE h₃ e (fun c o c1 _ c3 _ x => hs₃.extBut _ _ c1 (hs₂ _ _ c3 (hs₁.extBut _ _ c1 x))) ⟨oe, hs₃.extBut _ _ hez hoe, hce⟩
theorem walksU_zip (D1 : Draws prog w A.in1 i1 fp1 n1 P1 St1) (D2 : Draws prog w A.in1 i2 fp2 n2 P2 St2) (D : ZApart z TI TO i1 i2 fp1 fp2) (hn : n1 ≤ n2) :
    WalksU prog w A z (z :: TI :: TO :: (fp1 ++ fp2)) [z, TO, i1, i2] n1 (fun i vals => ∃ x y, P1 i x ∧ P2 i y ∧ vals = #[x, y])
      (fun i h => IsZip h z TI TO .none ∧ IsPair h TI (.ref i1) (.ref i2) ∧ (∃ a b, IsPair h TO a b) ∧ St1 i h ∧ St2 i h)
      (fun i T h => IsZip h z TI TO (rawInt T) ∧ IsPair h TI (.ref i1) (.ref i2) ∧ (∃ a b, IsPair h TO a b) ∧ St1 (i + 1) h ∧ St2 (i + 1) h ∧ T ≠ z ∧ T ≠ TO ∧ T ≠ i1 ∧ T ≠ i2) where
  sub := fun c hc => by
    simp only [List.mem_cons, List.not_mem_nil, or_false] at hc
    rcases hc with rfl | rfl | rfl | rfl
    · simp
    · simp
    · simp [D.i1m]
    · simp [D.i2m]
  frame := fun i h h' hst hk => by
    obtain ⟨hz, hTI, ⟨a, b, hTO⟩, h1, h2⟩ := hst
    exact ⟨hk z (by simp) _ hz, hk TI (by simp) _ hTI, ⟨a, b, hk TO (by simp) _ hTO⟩, D1.frame _ _ _ h1 fun b hb o e => hk b (by simp [hb]) o e, D2.frame _ _ _ h2 fun b hb o e => hk b (by simp [hb]) o e⟩
  item := fun i s Q E hi hst hQ => by
    obtain ⟨hz, hTI, ⟨a, b, hTO⟩, h1, h2⟩ := hst
    have hT : s.TypeIs (.ref z) "zip" := ⟨_, hz, rfl⟩
    unfold pyNext
    refine wpAny_bind (wpAny_attempt (wpAny_callSpecial?_slot (name := PySem.Str.ofString "__next__") hT F.slot_zip_next
      (wpAny_call_entry F.slot_zip_next hT F.entry_zip_next
        (zipD_item D1 D2 D hz hTI hTO h1 h2 hi (Nat.lt_of_lt_of_le hi hn) fun h' tk T x y a1 a2 a3 a4 a5 p1 p2 t1 t2 t3 t4 hk => wpAny_pure ?_) (F.args_zip_next_1 _))))
    exact hQ T #[x, y] h' tk ⟨x, y, p1, p2, rfl⟩ ⟨_, a5, rfl, _, rfl⟩ ⟨a1, hk _ _ D.TIz D.TITO (ne_of_mem D.i1m D.TI1) (ne_of_mem D.i2m D.TI2) hTI, ⟨_, _, a2⟩, a3, a4, t1, t2, t3, t4⟩
      fun c o hc e => hk c o (fun x => hc (by simp [x])) (fun x => hc (by simp [x])) (fun x => hc (by simp [x])) (fun x => hc (by simp [x])) e
  go := fun elts k pos i T s Q E hm hQ => by
    obtain ⟨hz, hTI, ⟨a, b, hTO⟩, h1, h2, _⟩ := hm
    exact wpAny_letOwnedTupleGo_zip hz fun h' hz' hs' => hQ h' ⟨hz', hs'.extBut _ _ D.TIz hTI, ⟨a, b, hs'.extBut _ _ D.TOz hTO⟩, st_but D1 h1 hs' D.z1, st_but D2 h2 hs' D.z2⟩ fun c o hc e => hs'.extBut _ _ (fun x => hc (by simp [x])) e
  apart := fun i T h hm hT => by
    obtain ⟨_, _, _, _, _, t1, t2, t3, t4⟩ := hm
    simp only [List.mem_cons, List.not_mem_nil, or_false] at hT
    rcases hT with rfl | rfl | rfl | rfl
    · exact t1 rfl
    · exact t2 rfl
    · exact t3 rfl
    · exact t4 rfl
  done := fun s Q E hst hQ => by
    obtain ⟨hz, hTI, ⟨a, b, hTO⟩, h1, h2⟩ := hst
    have hT : s.TypeIs (.ref z) "zip" := ⟨_, hz, rfl⟩
    unfold pyNext
    refine wpAny_bind (wpAny_attempt (wpAny_callSpecial?_slot (name := PySem.Str.ofString "__next__") hT F.slot_zip_next
      (wpAny_call_entry F.slot_zip_next hT F.entry_zip_next (zipD_end D1 D hz hTI hTO h1 fun h' e hk he => ?_) (F.args_zip_next_1 _))))
    obtain ⟨o, ho, hc⟩ := he
    refine wpAny_bind (wpAny_isInstance (T := "StopIteration") (b := true) ⟨o, ho, hc⟩ isSubtype_stop ?_)
    exact wpAny_pure (hQ _ _ fun c o hc e => hk c o (fun x => hc (by simp [x])) (fun x => hc (by simp [x])) (fun x => hc (by simp [x])) (fun x => hc (by simp [x])) e)
  self := fun i s Q E hst hQ => wpAny_pyIter_zip hst.1 hQ
end
end Mine
end

section
open PySem PySem.W PySem.W.X PySem.Builtin PyProof.Rows
set_option maxRecDepth 100000
namespace Mine
def xmanyEnv (N : Addr) : Env := { scope := scopeOf xmanyS, locals := N, globals := 3, cells := [], qual := "KaitaiStream.process_xor_many.<locals>.", func := some 334, code := .ref 333, frame := some N, builtins := 0 }
def xmanyFr (P : Params) (t u : Tok) (d k : Value) : Obj := { cls := .type "frame", data := .dict #[ent P "data" t d, ent P "key" u k] 2 }
abbrev xmanyGen : Expr := (callArgs (retVal (stmtAt (bodyOf xmanyS) 0))).getD 0 (.Constant .none 0 default)
def genIter : Expr → Expr
  | .GeneratorExp _ (c :: _) _ _ => c.iter
  | e => e
def mulTok (n : Nat) (tk t0 : Tok) : Tok := match n with
  | 1 => tk
  | _ => t0
def repInts (ks : List Int) (n : Nat) : List Int := (List.replicate n ks).flatten
abbrev zipO (TI TO : Addr) : Obj := { cls := .type "zip", dict := none, data := .fields #[.none, .bool false, .bool false, .ref TI, .ref TO], slots := #[] }
section
variable {w : World} {b1 b2 : Bool} {A : Around}
theorem many_iter_ba (hh : A.handled = none) {N a : Addr} {t u tk : Tok} {os ks : List Int} {s : Shared} {Q : Value → Shared → Prop} {E : Value → Shared → Prop} (F : Fix (pb w.params b1 b2) s.heap)
    (hN : s.heap.get? N = some (xmanyFr (pb w.params b1 b2) t u (.ref a) (.bytes (byteArr ks) tk))) (ha : s.heap.get? a = some (BA.baO (byteArr os))) (hnd : [N, a].Nodup) (hlo : ∀ x ∈ [N, a], 524 ≤ x) (hos : os.length ≤ 8) (hk0 : ks ≠ []) (hk5 : ks.length ≤ 5)
    (hQ : ∀ h' tk', HS s.heap h' [N, 3, 0, a] [(s.heap.objs.size + 4, zipO (s.heap.objs.size + 2) (s.heap.objs.size + 3)), (s.heap.objs.size + 3, tupO #[.none, .none]), (s.heap.objs.size + 2, tupO #[.ref s.heap.objs.size, .ref (s.heap.objs.size + 1)]),
        (s.heap.objs.size + 1, fldO "bytes_iterator" #[.bytes (byteArr (repInts ks os.length)) (mulTok os.length tk (s.toks + 2)), .int 0 0]), (s.heap.objs.size, fldO "bytearray_iterator" #[.ref a, .int 0 0]),
        (N, xmanyFr (pb w.params b1 b2) t u (.ref a) (.bytes (byteArr ks) tk)), (3, ob3 (pb w.params b1 b2)), (0, ob0 (pb w.params b1 b2)), (a, BA.baO (byteArr os))] 5 →
      Q (.ref (s.heap.objs.size + 4)) { s with heap := h', toks := tk' }) :
    wpAny (model prg (wb w b1 b2)) A (eval (genIter xmanyGen) (xmanyEnv N)) Q E s := by
  refine wpAny_eval1 (any_fin hh [(N, xmanyFr (pb w.params b1 b2) t u (.ref a) (.bytes (byteArr ks) tk)), (3, ob3 (pb w.params b1 b2)), (0, ob0 (pb w.params b1 b2)), (a, BA.baO (byteArr os))] 130 [1, 2, 0, 0, 1, 2, 0, 3, 3, 3, 3, 3, 3, 0, 0, 0, 0, 0, 0, 0, 0, 0, 0] (.done (.ret (.ref (s.heap.objs.size + 4)))) [0, 1, 2, 3, 4, 5, 6, 7, 8]
    [(s.heap.objs.size + 4, zipO (s.heap.objs.size + 2) (s.heap.objs.size + 3)), (s.heap.objs.size + 3, tupO #[.none, .none]), (s.heap.objs.size + 2, tupO #[.ref s.heap.objs.size, .ref (s.heap.objs.size + 1)]),
        (s.heap.objs.size + 1, fldO "bytes_iterator" #[.bytes (byteArr (repInts ks os.length)) (mulTok os.length tk (s.toks + 2)), .int 0 0]), (s.heap.objs.size, fldO "bytearray_iterator" #[.ref a, .int 0 0]),
        (N, xmanyFr (pb w.params b1 b2) t u (.ref a) (.bytes (byteArr ks) tk)), (3, ob3 (pb w.params b1 b2)), (0, ob0 (pb w.params b1 b2)), (a, BA.baO (byteArr os))] 5 (match os.length with | 1 => 2 | _ => 3) True ?_ ?_
    (fun _ _ _ _ _ => by
      clear hQ
      rcases os with _ | ⟨o1, _ | ⟨o2, _ | ⟨o3, _ | ⟨o4, _ | ⟨o5, _ | ⟨o6, _ | ⟨o7, _ | ⟨o8, _ | ⟨o9, os⟩⟩⟩⟩⟩⟩⟩⟩⟩ <;>
        rcases ks with _ | ⟨k1, _ | ⟨k2, _ | ⟨k3, _ | ⟨k4, _ | ⟨k5, _ | ⟨k6, ks⟩⟩⟩⟩⟩⟩ <;>
        first
          | exact absurd rfl hk0
          | (exfalso; simp only [List.length_cons] at hos hk5; omega)
          | (clear hk0 hos hk5; cases b2 <;> kernel_rfl)) trivial (by decide) fun h' H => hQ h' _ H)
  · simp only [List.mem_cons, List.not_mem_nil, or_false, forall_eq_or_imp, forall_eq]
    exact ⟨hN, F.get 2, F.get 0, ha⟩
  · have := nd_fix (cs := [3, 0]) hnd hlo
    exact nd_pick this [0, 2, 3, 1] (by decide)
theorem many_iter_by (hh : A.handled = none) {N : Addr} {t u tk td : Tok} {os ks : List Int} {s : Shared} {Q : Value → Shared → Prop} {E : Value → Shared → Prop} (F : Fix (pb w.params b1 b2) s.heap)
    (hN : s.heap.get? N = some (xmanyFr (pb w.params b1 b2) t u (.bytes (byteArr os) td) (.bytes (byteArr ks) tk))) (hlo : 524 ≤ N) (hos : os.length ≤ 8) (hk0 : ks ≠ []) (hk5 : ks.length ≤ 5)
    (hQ : ∀ h' tk', HS s.heap h' [N, 3, 0] [(s.heap.objs.size + 4, zipO (s.heap.objs.size + 2) (s.heap.objs.size + 3)), (s.heap.objs.size + 3, tupO #[.none, .none]), (s.heap.objs.size + 2, tupO #[.ref s.heap.objs.size, .ref (s.heap.objs.size + 1)]),
        (s.heap.objs.size + 1, fldO "bytes_iterator" #[.bytes (byteArr (repInts ks os.length)) (mulTok os.length tk (s.toks + 2)), .int 0 0]), (s.heap.objs.size, fldO "bytes_iterator" #[.bytes (byteArr os) td, .int 0 0]),
        (N, xmanyFr (pb w.params b1 b2) t u (.bytes (byteArr os) td) (.bytes (byteArr ks) tk)), (3, ob3 (pb w.params b1 b2)), (0, ob0 (pb w.params b1 b2))] 5 →
      Q (.ref (s.heap.objs.size + 4)) { s with heap := h', toks := tk' }) :
    wpAny (model prg (wb w b1 b2)) A (eval (genIter xmanyGen) (xmanyEnv N)) Q E s := by
  refine wpAny_eval1 (any_fin hh [(N, xmanyFr (pb w.params b1 b2) t u (.bytes (byteArr os) td) (.bytes (byteArr ks) tk)), (3, ob3 (pb w.params b1 b2)), (0, ob0 (pb w.params b1 b2))] 130 [1, 2, 0, 0, 1, 2, 0, 0, 0, 0, 0, 0, 0, 0, 0, 0, 0] (.done (.ret (.ref (s.heap.objs.size + 4)))) [0, 1, 2, 3, 4, 5, 6, 7]
    [(s.heap.objs.size + 4, zipO (s.heap.objs.size + 2) (s.heap.objs.size + 3)), (s.heap.objs.size + 3, tupO #[.none, .none]), (s.heap.objs.size + 2, tupO #[.ref s.heap.objs.size, .ref (s.heap.objs.size + 1)]),
        (s.heap.objs.size + 1, fldO "bytes_iterator" #[.bytes (byteArr (repInts ks os.length)) (mulTok os.length tk (s.toks + 2)), .int 0 0]), (s.heap.objs.size, fldO "bytes_iterator" #[.bytes (byteArr os) td, .int 0 0]),
        (N, xmanyFr (pb w.params b1 b2) t u (.bytes (byteArr os) td) (.bytes (byteArr ks) tk)), (3, ob3 (pb w.params b1 b2)), (0, ob0 (pb w.params b1 b2))] 5 (match os.length with | 1 => 2 | _ => 3) True ?_ ?_
    (fun _ _ _ _ _ => by
      clear hQ
      rcases os with _ | ⟨o1, _ | ⟨o2, _ | ⟨o3, _ | ⟨o4, _ | ⟨o5, _ | ⟨o6, _ | ⟨o7, _ | ⟨o8, _ | ⟨o9, os⟩⟩⟩⟩⟩⟩⟩⟩⟩ <;>
        rcases ks with _ | ⟨k1, _ | ⟨k2, _ | ⟨k3, _ | ⟨k4, _ | ⟨k5, _ | ⟨k6, ks⟩⟩⟩⟩⟩⟩ <;>
        first
          | exact absurd rfl hk0
          | (exfalso; simp only [List.length_cons] at hos hk5; omega)
          | (clear hk0 hos hk5; cases b2 <;> kernel_rfl)) trivial (by decide) fun h' H => hQ h' _ H)
  · simp only [List.mem_cons, List.not_mem_nil, or_false, forall_eq_or_imp, forall_eq]
    exact ⟨hN, F.get 2, F.get 0⟩
  · exact nd_fix (ws := [N]) (cs := [3, 0]) (by simp) (by simpa using hlo)
end
end Mine
end

section
open PySem PySem.W PySem.W.X PySem.Builtin PyProof.Rows
set_option maxRecDepth 100000
namespace Mine
section
variable {w : World} {b1 b2 : Bool} {A : Around}
theorem xmany_bind (a b : Value) : bindArgs (fdOf ob334) ⟨[a, b], []⟩ = pure [(("data" : Str), a), (("key" : Str), b)] := by
  kernel_rfl
theorem xmany_code (hh : A.handled = none) {N : Addr} {tb : Option Addr} {s : Shared} {Q : Value → Shared → Prop} {E : Value → Shared → Prop} (F : Fix (pb w.params b1 b2) s.heap) (T : s.heap.get? 329 = some (tabO (genPos xmanyGen) tb))
    (hQ : ∀ h' tk c, Kp [329] s.heap h' → h'.get? 329 = some (tabO (genPos xmanyGen) (some c)) → Q (.ref c) { s with heap := h', toks := tk }) :
    wpAny (model prg (wb w b1 b2)) A (genexprCode (xmanyEnv N) (genPos xmanyGen) ((xmanyEnv N).qual ++ "<genexpr>") (genScope xmanyGen)) Q E s := by
  have hL : ∀ x ∈ [(329, tabO (genPos xmanyGen) tb), (333, ob333 (pb w.params b1 b2)), (2, ob2 (pb w.params b1 b2))], s.heap.get? x.1 = some x.2 := by
    simp only [List.mem_cons, List.not_mem_nil, or_false, forall_eq_or_imp, forall_eq]
    exact ⟨T, F.get 5, F.get 1⟩
  have hro : ∀ (L' : List (Addr × Obj)), (333, ob333 (pb w.params b1 b2)) ∈ L' → (2, ob2 (pb w.params b1 b2)) ∈ L' → ∀ b ∈ [329, 333, 2], b ∈ [329] ∨ ∃ o, s.heap.get? b = some o ∧ (b, o) ∈ L' := by
    intro L' m1 m2 b hb
    simp only [List.mem_cons, List.not_mem_nil, or_false] at hb
    rcases hb with rfl | rfl | rfl
    · simp
    · exact .inr ⟨_, F.get 5, m1⟩
    · exact .inr ⟨_, F.get 1, m2⟩
  rcases tb with _ | c
  · refine wpAny_valF (any_fin hh [(329, tabO (genPos xmanyGen) none), (333, ob333 (pb w.params b1 b2)), (2, ob2 (pb w.params b1 b2))] 30 [1, 0, 3, 3, 3] (.done (.ret (.ref (s.heap.objs.size + 2)))) [3, 4, 5] [(329, tabO (genPos xmanyGen) (some (s.heap.objs.size + 2))), (333, ob333 (pb w.params b1 b2)), (2, ob2 (pb w.params b1 b2))] 3 5 True hL (by simp) (fun _ _ _ _ _ => by kernel_rfl) trivial (by decide) ?_)
    intro h' H
    exact hQ _ _ _ (H.kpM _ (hro _ (by simp) (by simp))) (H.at 0 rfl)
  · refine wpAny_valF (any_fin hh [(329, tabO (genPos xmanyGen) (some c)), (333, ob333 (pb w.params b1 b2)), (2, ob2 (pb w.params b1 b2))] 30 [1, 0] (.done (.ret (.ref c))) [0, 1, 2] [(329, tabO (genPos xmanyGen) (some c)), (333, ob333 (pb w.params b1 b2)), (2, ob2 (pb w.params b1 b2))] 0 0 True hL (by simp) (fun _ _ _ _ _ => by kernel_rfl) trivial (by decide) ?_)
    intro h' H
    exact hQ _ _ _ (H.kpM _ (hro _ (by simp) (by simp))) (H.at 0 rfl)
theorem xmany_elt (hh : A.handled = none) {C c5 : Addr} {va vb : Value} {a b : Int} {u u' : Tok} {N : Addr} {s : Shared} {m : PySem.Str → Option Value} {E : Value → Shared → Prop} (hva : va = .int a u) (hvb : vb = .int b u') (hn : s.heap.Ns C m) (hma : m "a" = some va) (hmb : m "b" = some vb) :
    wpAny (model prg (wb w b1 b2)) A (eval (match xmanyGen with | .GeneratorExp e _ _ _ => e | e => e) (genEnv (genScope xmanyGen) [] C (.ref c5) 0 (xmanyEnv N))) (fun y s₃ => (∃ u, y = .int (Builtin.bitXor a b) u) ∧ Keeps s s₃) E s := by
  subst hva; subst hvb
  refine wpAny_BinOp (wpAny_Name (wpAny_loadName_local rfl (by kernel_rfl) hn hma ?_) (by decide +kernel))
  refine wpAny_Name (wpAny_loadName_local rfl (by kernel_rfl) hn hmb ?_) (by decide +kernel)
  refine wpAny_valF (any_fin hh [] 12 [] (.done (.ret (.int (Builtin.bitXor a b) s.toks))) [] [] 0 1 True (by simp) (by simp) (fun _ _ _ _ _ => by kernel_rfl) trivial (by decide) ?_)
  intro h₂ H2
  exact ⟨⟨_, rfl⟩, h₂, _, rfl, fun b o e => H2.keep b o e (by simp)⟩
theorem zip_pack {prog : Program} {w : World} {A : Around} (hh : A.handled = none) {N0 : Addr} {fp1 : List Addr} {os rs : List Int} {td : Tok} {P1 : Nat → Value → Prop} {St1 : Nat → Heap → Prop} (D1 : Draws prog w A.in1 N0 fp1 (byteArr os).size P1 St1) (hP1 : ∀ i v, P1 i v → ∃ c u, (byteArr os)[i]? = some c ∧ v = .int (c.toNat : Int) u)
    (hr : ∀ n ∈ os, 0 ≤ n ∧ n < 256) (hrs : ∀ n ∈ rs, 0 ≤ n ∧ n < 256) (hl : os.length ≤ rs.length) (h0 : N0 ∈ fp1) (hlt : ∀ b ∈ fp1, b ≤ N0) :
    WalksU prog w A (N0 + 4) ((N0 + 4) :: (N0 + 2) :: (N0 + 3) :: (fp1 ++ [N0 + 1])) [N0 + 4, N0 + 3, N0, N0 + 1] os.length (fun i vals => ∃ x y, (∃ u, x = .int (os.getD i 0) u) ∧ (∃ u, y = .int (rs.getD i 0) u) ∧ vals = #[x, y])
      (fun i h => IsZip h (N0 + 4) (N0 + 2) (N0 + 3) .none ∧ IsPair h (N0 + 2) (.ref N0) (.ref (N0 + 1)) ∧ (∃ a b, IsPair h (N0 + 3) a b) ∧ St1 i h ∧ KBw.IsBytesIter h (N0 + 1) (byteArr rs) td i)
      (fun i T h => IsZip h (N0 + 4) (N0 + 2) (N0 + 3) (rawInt T) ∧ IsPair h (N0 + 2) (.ref N0) (.ref (N0 + 1)) ∧ (∃ a b, IsPair h (N0 + 3) a b) ∧ St1 (i + 1) h ∧ KBw.IsBytesIter h (N0 + 1) (byteArr rs) td (i + 1) ∧ T ≠ N0 + 4 ∧ T ≠ N0 + 3 ∧ T ≠ N0 ∧ T ≠ N0 + 1) := by
  have out : ∀ k : Nat, 0 < k → N0 + k ∉ fp1 := fun k hk hm => absurd (hlt _ hm) (Nat.not_le.mpr (Nat.lt_add_of_pos_right hk))
  have ne : ∀ j k : Nat, j ≠ k → N0 + j ≠ N0 + k := fun j k h e => h (Nat.add_left_cancel e)
  have D : ZApart (N0 + 4) (N0 + 2) (N0 + 3) N0 (N0 + 1) fp1 [N0 + 1] :=
    { TIz := ne 2 4 (by decide), TOz := ne 3 4 (by decide), TITO := ne 2 3 (by decide), z1 := out 4 (by decide), z2 := by simpa using ne 4 1 (by decide), TO1 := out 3 (by decide), TO2 := by simpa using ne 3 1 (by decide),
      TI1 := out 2 (by decide), TI2 := by simpa using ne 2 1 (by decide), i1m := h0, i2m := by simp, i1n := by simpa using ne 0 1 (by decide), i2n := out 1 (by decide) }
  have W := walksU_zip D1 (draws_by (prog := prog) (w := w) (A := A.in1) hh (N0 + 1) (byteArr rs) td) D (by rw [byteArr_size, byteArr_size]; exact hl)
  rw [byteArr_size] at W
  exact { W with
    item := fun i s Q E hi hst hQ => W.item i s Q E hi hst fun T vals h' tk hP => hQ T vals h' tk (by
      obtain ⟨x, y, p1, p2, rfl⟩ := hP
      obtain ⟨c, u, hc, rfl⟩ := hP1 _ _ p1
      obtain ⟨c', u', hc', rfl⟩ := p2
      exact ⟨_, _, ⟨u, by rw [byteArr_int hr hc]⟩, ⟨u', by rw [byteArr_int hrs hc']⟩, rfl⟩) }
/-- the zip over the data and the repeated key, in one form -/
theorem many_iter (hh : A.handled = none) {N : Addr} {t u tk : Tok} {dv : Value} {os ks : List Int} {s : Shared} {Q : Value → Shared → Prop} {E : Value → Shared → Prop} (F : Fix (pb w.params b1 b2) s.heap) (S : Src s.heap dv os) (hr : ∀ n ∈ os, 0 ≤ n ∧ n < 256) (hrk : ∀ n ∈ ks, 0 ≤ n ∧ n < 256)
    (hN : s.heap.get? N = some (xmanyFr (pb w.params b1 b2) t u dv (.bytes (byteArr ks) tk))) (hlo : 524 ≤ N) (hda : ∀ a, dv = .ref a → 524 ≤ a) (hos : os.length ≤ 8) (hk0 : ks ≠ []) (hk5 : ks.length ≤ 5)
    (hQ : ∀ h' tk' z fp wr St Mid, Kp [] s.heap h' → (∀ A' : Around, A'.handled = none → WalksU prg (wb w b1 b2) A' z fp wr os.length (fun i vals => ∃ x y, (∃ u, x = .int (os.getD i 0) u) ∧ (∃ u, y = .int ((repInts ks os.length).getD i 0) u) ∧ vals = #[x, y]) St Mid) →
      St 0 h' → (∃ TI TO, h'.get? z = some (zipO TI TO)) → (∀ b ∈ wr, s.heap.get? b = none) → (∀ b ∈ fp, (∃ o, h'.get? b = some o) ∧ (s.heap.get? b = none ∨ dv = .ref b)) → Q (.ref z) { s with heap := h', toks := tk' }) :
    wpAny (model prg (wb w b1 b2)) A (eval (genIter xmanyGen) (xmanyEnv N)) Q E s := by
  have hrep : ∀ n ∈ repInts ks os.length, 0 ≤ n ∧ n < 256 := fun n hn => by
    obtain ⟨l, hl, hnl⟩ := List.mem_flatten.mp hn
    rw [(List.mem_replicate.mp hl).2] at hnl
    exact hrk n hnl
  have hrl : os.length ≤ (repInts ks os.length).length := by
    have hp := List.length_pos_iff.mpr hk0
    have : (repInts ks os.length).length = os.length * ks.length := by simp [repInts]
    rw [this]
    exact Nat.le_mul_of_pos_right _ hp
  have hge : ∀ k, s.heap.get? (s.heap.objs.size + k) = none := fun k => none_of_ge (Nat.le_add_right _ _)
  rcases S with ⟨td, rfl⟩ | ⟨a, rfl, ha⟩
  · refine many_iter_by hh F hN hlo hos hk0 hk5 fun h' tk' H => ?_
    have K : Kp [] s.heap h' := H.kpM _ fun b hb => by
      have : b ∈ [N, 3, 0] := hb
      simp only [List.mem_cons, List.not_mem_nil, or_false] at this
      rcases this with rfl | rfl | rfl
      · exact .inr ⟨_, hN, by simp⟩
      · exact .inr ⟨_, F.get 2, by simp⟩
      · exact .inr ⟨_, F.get 0, by simp⟩
    refine hQ h' tk' (s.heap.objs.size + 4) _ _ _ _ K (fun A' hA' => zip_pack hA' (td := mulTok os.length tk (s.toks + 2)) (draws_by (A := A'.in1) hA' s.heap.objs.size (byteArr os) td) (fun _ _ h => h) hr hrep hrl (by simp) (fun b hb => Nat.le_of_eq (List.mem_singleton.mp hb)))
      ⟨H.at 0 rfl, H.at 2 rfl, ⟨_, _, H.at 1 rfl⟩, ⟨_, H.at 4 rfl, rfl, rfl⟩, _, H.at 3 rfl, rfl, rfl⟩ ⟨_, _, H.at 0 rfl⟩ ?_ ?_
    · intro b hb
      simp only [List.mem_cons, List.not_mem_nil, or_false] at hb
      rcases hb with rfl | rfl | rfl | rfl
      · exact hge 4
      · exact hge 3
      · exact hge 0
      · exact hge 1
    · intro b hb
      simp only [List.mem_cons, List.mem_append, List.not_mem_nil, or_false] at hb
      rcases hb with rfl | rfl | rfl | rfl | rfl
      · exact ⟨⟨_, H.at 0 rfl⟩, .inl (hge 4)⟩
      · exact ⟨⟨_, H.at 2 rfl⟩, .inl (hge 2)⟩
      · exact ⟨⟨_, H.at 1 rfl⟩, .inl (hge 3)⟩
      · exact ⟨⟨_, H.at 4 rfl⟩, .inl (hge 0)⟩
      · exact ⟨⟨_, H.at 3 rfl⟩, .inl (hge 1)⟩
  · have hNa : N ≠ a := fun e => by
      rw [e, ha] at hN
      have := congrArg Obj.cls (Option.some.inj hN)
      exact absurd this (by simp [xmanyFr])
    have hlt := Heap.lt_size ha
    refine many_iter_ba hh F hN ha (by simp [hNa]) (fun x hx => by
      simp only [List.mem_cons, List.not_mem_nil, or_false] at hx
      rcases hx with rfl | rfl
      · exact hlo
      · exact hda _ rfl) hos hk0 hk5 fun h' tk' H => ?_
    have K : Kp [] s.heap h' := H.kpM _ fun b hb => by
      have : b ∈ [N, 3, 0, a] := hb
      simp only [List.mem_cons, List.not_mem_nil, or_false] at this
      rcases this with rfl | rfl | rfl | rfl
      · exact .inr ⟨_, hN, by simp⟩
      · exact .inr ⟨_, F.get 2, by simp⟩
      · exact .inr ⟨_, F.get 0, by simp⟩
      · exact .inr ⟨_, ha, by simp⟩
    refine hQ h' tk' (s.heap.objs.size + 4) _ _ _ _ K (fun A' hA' => zip_pack hA' (td := mulTok os.length tk (s.toks + 2)) (draws_ba (A := A'.in1) hA' s.heap.objs.size a (Nat.ne_of_lt hlt) (byteArr os)) (fun _ _ h => h) hr hrep hrl (by simp) (fun b hb => ?_))
      ⟨H.at 0 rfl, H.at 2 rfl, ⟨_, _, H.at 1 rfl⟩, ⟨⟨_, H.at 4 rfl, rfl, rfl⟩, _, H.at 8 rfl, rfl, fun _ _ => rfl⟩, _, H.at 3 rfl, rfl, rfl⟩ ⟨_, _, H.at 0 rfl⟩ ?_ ?_
    · simp only [List.mem_cons, List.not_mem_nil, or_false] at hb
      rcases hb with rfl | rfl
      · exact Nat.le_refl _
      · exact Nat.le_of_lt hlt
    · intro b hb
      simp only [List.mem_cons, List.not_mem_nil, or_false] at hb
      rcases hb with rfl | rfl | rfl | rfl
      · exact hge 4
      · exact hge 3
      · exact hge 0
      · exact hge 1
    · intro b hb
      simp only [List.mem_cons, List.mem_append, List.not_mem_nil, or_false] at hb
      rcases hb with rfl | rfl | rfl | (rfl | rfl) | rfl
      · exact ⟨⟨_, H.at 0 rfl⟩, .inl (hge 4)⟩
      · exact ⟨⟨_, H.at 2 rfl⟩, .inl (hge 2)⟩
      · exact ⟨⟨_, H.at 1 rfl⟩, .inl (hge 3)⟩
      · exact ⟨⟨_, H.at 4 rfl⟩, .inl (hge 0)⟩
      · exact ⟨⟨_, H.at 8 rfl⟩, .inr rfl⟩
      · exact ⟨⟨_, H.at 3 rfl⟩, .inl (hge 1)⟩
theorem xmany_call (hh : A.handled = none) (hroom : A.depth + 4 < recursionLimit) {R : Result → Shared → Prop} {dv : Value} {tk : Tok} {tb : Option Addr} {os ks : List Int} {s : Shared} (hsz524 : 524 ≤ s.heap.objs.size) (F : Fix (pb w.params b1 b2) s.heap) (T : s.heap.get? 329 = some (tabO (genPos xmanyGen) tb)) (S : Src s.heap dv os)
    (hr : ∀ n ∈ os, 0 ≤ n ∧ n < 256) (hrk : ∀ n ∈ ks, 0 ≤ n ∧ n < 256) (hda : ∀ a, dv = .ref a → 524 ≤ a) (hos : os.length ≤ 8) (hk0 : ks ≠ []) (hk5 : ks.length ≤ 5) {ns : List Int} (hns : ns.length = os.length) (hnv : ∀ i, i < os.length → ns.getD i 0 = Builtin.bitXor (os.getD i 0) ((repInts ks os.length).getD i 0)) (hnr : ∀ n ∈ ns, 0 ≤ n ∧ n < 256)
    (hR : ∀ s' t c, Rel [329] s s' → s'.heap.get? 329 = some (tabO (genPos xmanyGen) (some c)) → R (.ok (.ret (.bytes (byteArr ns) t))) s') :
    codeAny (model prg (wb w b1 b2)) A (.call (.ref 334) ⟨[dv, .bytes (byteArr ks) tk], []⟩) R s := by
  refine codeAny_call_function (fd := fdOf ob334) (by omega) (F.get 8) rfl rfl rfl rfl ⟨333, _, _, _, rfl, F.get 5, rfl, rfl⟩ ?_
  refine wpAny_of_eq (xmany_bind _ _) ?_
  rw [newEnv_eq]
  refine wpAny_envF (any_fin hh [] 20 [0, 0, 0, 0, 0, 0, 0] (.again (.func [] (xmanyEnv s.heap.objs.size))) [0] [(s.heap.objs.size, xmanyFr (pb w.params b1 b2) s.toks (s.toks + 1) dv (.bytes (byteArr ks) tk))] 1 2 True (by simp) (by simp) (fun _ _ _ _ _ => by kernel_rfl) trivial (by decide) ?_)
  intro h₁ H
  have K1 : Kp [] s.heap h₁ := H.kpM _ fun b hb => by cases hb
  have F1 := F.keep K1 (fun a ha => by cases ha)
  refine ⟨nolimit_ob2 (F1.get 1), codeAny_func ?_⟩
  have hhd : (A.deeper (xmanyEnv s.heap.objs.size)).handled = none := hh
  have ro30 : ∀ {h : Heap}, Fix (pb w.params b1 b2) h → ∀ b ∈ [(3 : Addr), 0], b ∈ ([] : List Addr) ∨ ∃ o, h.get? b = some o ∧ (b, o) ∈ [((3 : Addr), ob3 (pb w.params b1 b2)), (0, ob0 (pb w.params b1 b2))] := by
    intro h F b hb
    simp only [List.mem_cons, List.not_mem_nil, or_false] at hb
    rcases hb with rfl | rfl
    · exact .inr ⟨_, F.get 2, by simp⟩
    · exact .inr ⟨_, F.get 0, by simp⟩
  show wpAny _ _ (execs [stmtAt (bodyOf xmanyS) 0] _) _ _ _
  refine wpAny_execs_cons (wpAny_Return_some (wpAny_Call_NameR (wpAny_eval1 (any_fin hhd [(3, ob3 (pb w.params b1 b2)), (0, ob0 (pb w.params b1 b2))] 12 [0, 1] (.done (.ret (.type "bytes"))) [0, 1] [(3, ob3 (pb w.params b1 b2)), (0, ob0 (pb w.params b1 b2))] 0 0 True ?_ (by simp) (fun _ _ _ _ _ => by kernel_rfl) trivial (by decide) ?_))))
  · simp only [List.mem_cons, List.not_mem_nil, or_false, forall_eq_or_imp, forall_eq]
    exact ⟨F1.get 2, F1.get 0⟩
  intro h₃ H3
  have K3' : Kp [] h₁ h₃ := H3.kpM _ (ro30 F1)
  have K3 : Kp [] s.heap h₃ := K1.trans K3'
  have F3 := F1.keep K3' (fun a ha => by cases ha)
  have nil : ∀ a : Addr, a ∉ ([] : List Addr) := fun a => by simp
  have S3 : Src h₃ dv os := by
    rcases S with ⟨t, e⟩ | ⟨a, e1, e2⟩
    · exact .inl ⟨t, e⟩
    · exact .inr ⟨a, e1, K3 _ _ e2 (nil _)⟩
  refine PySem.callWith_type1 (t := eval xmanyGen (xmanyEnv s.heap.objs.size)) ?_
  refine wpAny_GeneratorExp_walksQTD (cl := []) hhd rfl (by kernel_rfl) (by simp) (by decide +kernel) (by decide +kernel) (by decide +kernel) (by decide +kernel) rfl (by show A.depth + 1 < _; omega) (many_iter hhd F3 S3 hr hrk (K3' _ _ (H.at 0 rfl) (nil _)) hsz524 hda hos hk0 hk5 ?_) (fun _ => rfl)
  intro h₅ tk5 z fp wr St Mid K5 hW hst ⟨TI, TO, hz⟩ hwr hfp
  have K05 : Kp [] s.heap h₅ := K3.trans K5
  have F5 := F3.keep K5 (fun a ha => by cases ha)
  refine wpAny_pyIter_zip hz ?_
  refine ⟨nolimit_ob2 (F5.get 1), ?_⟩
  have ne329 : ∀ b ∈ fp, b ∉ [(329 : Addr)] := fun b hb hm => by
    have e : b = 329 := List.mem_singleton.mp hm
    rcases (hfp b hb).2 with h | h
    · rw [e, K3 _ _ T (nil _)] at h; cases h
    · have := hda _ h
      rw [e] at this
      exact absurd this (by decide)
  refine xmany_code hhd F5 (K05 _ _ T (nil _)) fun h₆ tk6 c6 K6 T6 => ?_
  have F6 := F5.keepX K6 (by decide)
  refine blt_for hhd F6 fun h₇ tk7 K7 => ?_
  have F7 := F6.keep K7 (fun a ha => by cases ha)
  have K67 : Kp [329] h₅ h₇ := K6.trans (K7.mono fun _ h => by cases h)
  have T7 := K7 _ _ T6 (nil _)
  refine ⟨z, fp, wr, os.length, _, St, Mid, fun _ => true, fun i v => ∃ u, v = .int (Builtin.bitXor (os.getD i 0) ((repInts ks os.length).getD i 0)) u, rfl, hW, fun i vals h => ?_, (hW A hh).frame _ _ _ hst (fun b hb o e => K67 _ _ e (ne329 b hb)), ?_, nolimit_ob2 (F7.get 1), ?_, ?_, ?_⟩
  · obtain ⟨x, y, _, _, e⟩ := h
    exact ⟨x, y, e⟩
  · intro b hb
    obtain ⟨⟨o, e⟩, _⟩ := hfp b hb
    exact Heap.lt_size (K67 _ _ e (ne329 b hb))
  · intro hm
    have := hwr _ hm
    rw [F3.get 1] at this
    cases this
  · intro href hhref
    refine ⟨?_, ?_⟩
    · intro A' E' i va vb s₂ m₂ q1 q2 q3 q4 q5 q6 q7 q8
      exact wpAny_pure ⟨rfl, s₂.heap, s₂.toks, rfl, fun _ _ e => e⟩
    · intro A' E' i va vb s₂ m₂ q1 q2 q3 ⟨x, y, ⟨u, hx⟩, ⟨u', hy⟩, e⟩ _ q5 q6 q7 q8
      simp at e
      obtain ⟨rfl, rfl⟩ := e
      exact xmany_elt (b1 := b1) (b2 := b2) (w := w) q1 hx hy q5 q6 q7
  · intro a h₈ tk8 gs hgs hsz hsz2 K8 W8 hst8
    obtain ⟨⟨⟨c9, d9, dt9, sl9⟩, nm, qn, g1, g2, g3, g4⟩, _⟩ := id hst8
    cases g2; cases g3; cases g4
    have hlen : (passing (fun _ => true) os.length 0).length = os.length := by rw [passing_true]; simp
    refine call_bytes_gen hhd g1 W8 hst8 ?_ (ns := ns) (by rw [hlen, hns]) ?_ hnr ?_ ?_
    · intro b hb
      show b < h₈.objs.size
      rw [hsz2]
      rcases List.mem_cons.mp hb with rfl | hb
      · exact Nat.lt_succ_self _
      · refine Nat.lt_succ_of_lt (Nat.lt_of_le_of_lt ?_ hsz)
        rcases List.mem_cons.mp hb with rfl | hb
        · exact Nat.le_refl _
        · exact Nat.le_of_lt (List.mem_range.mp hb)
    · rintro j v ⟨i, hi, u, rfl⟩
      rw [passing_true] at hi
      obtain ⟨hj, hji⟩ := List.getElem?_eq_some_iff.mp hi
      simp only [List.getElem_range] at hji
      subst hji
      rw [List.length_range] at hj
      exact ⟨u, by rw [hnv j hj]⟩
    · rw [hns]
      exact Nat.le_trans hos (by decide +kernel)
    · intro s' t hm
      have hsome : ∀ b ∈ (h₇.objs.size :: wr : List Addr), s.heap.get? b = none := fun b hb => by
        rcases List.mem_cons.mp hb with rfl | hb
        · refine ((K05.mono fun _ h => by cases h).trans K67 : Kp [329] s.heap h₇).fresh (fun b hb => ?_) (Nat.le_refl _)
          rw [List.mem_singleton.mp hb]
          exact ⟨_, T7⟩
        · cases e : s.heap.get? b with
          | none => rfl
          | some o =>
            have := hwr b hb
            rw [K3 _ _ e (nil _)] at this
            cases this
      refine hR s' t c6 ⟨fun b o e hn => ?_, fun hg => allBare_step hg hgs hm.gens, hm.drawn, hm.os⟩ ?_
      · refine hm.heap b o (fun hb => ?_) (K8 _ _ (K67 _ _ (K05 _ _ e (nil _)) hn))
        rw [hsome b hb] at e; cases e
      · refine hm.heap 329 _ (fun hb => ?_) (K8 _ _ T7)
        rw [hsome _ hb] at T; cases T
end
end Mine
end

section
open PySem PySem.W PySem.W.X PySem.Builtin PyProof.Rows
set_option maxRecDepth 100000
namespace Mine
noncomputable def unitF (t : Sem Unit) : Sem Fin := t.bind fun _ => .pure (.done .next)
abbrev UnitQ (Q : Unit → Shared → Prop) : Fin → Shared → Prop := fun fin s' => match fin with
  | .done .next => Q () s'
  | _ => False
theorem wpAny_unitF {M : Model} {A : Around} {s : Shared} {t : Sem Unit} {Q : Unit → Shared → Prop} {E : Value → Shared → Prop} (h : wpAny M A (unitF t) (UnitQ Q) E s) : wpAny M A t Q E s := fun Γ p hΓ => by
  have z := h Γ p hΓ
  unfold unitF at z
  rw [show t.bind (fun _ => Sem.pure (Fin.done Flow.next)) = (t >>= fun _ => Sem.pure (Fin.done Flow.next)) from rfl, Sem.wp_bind'] at z
  simpa only [Sem.wp_pure] using z
theorem wpAny_assign1 {M : Model} {A : Around} {s : Shared} {e : Expr} {env : Env} {v : Value} {Q : Unit → Shared → Prop} {E : Value → Shared → Prop} (h : wpAny M A (unitF (assignX e env v)) (UnitQ Q) E s) : wpAny M A (assign e env v) Q E s := by
  rw [assign_eq]; exact wpAny_unitF h
def forTarget : Stmt → Expr
  | .For t _ _ _ _ => t
  | _ => .Constant .none 0 default
def rotEnv (N : Addr) : Env := { scope := scopeOf rotS, locals := N, globals := 3, cells := [], qual := "KaitaiStream.process_rotate_left.<locals>.", func := some 344, code := .ref 343, frame := some N, builtins := 0 }
structure RF where
  (t1 t2 t3 t4 t5 : Tok) (d : Value) (am : Int) (ta tg : Tok) (an : Int) (tn : Tok) (r : Addr)
abbrev rotFr (P : Params) (f : RF) : Option (Tok × Value × Tok × Value) → Obj
  | none => { cls := .type "frame", data := .dict #[ent P "data" f.t1 f.d, ent P "amount" f.t2 (.int f.am f.ta), ent P "group_size" f.t3 (.int 1 f.tg), ent P "anti_amount" f.t4 (.int f.an f.tn), ent P "r" f.t5 (.ref f.r)] 5 }
  | some (u1, v1, u2, v2) => { cls := .type "frame", data := .dict #[ent P "data" f.t1 f.d, ent P "amount" f.t2 (.int f.am f.ta), ent P "group_size" f.t3 (.int 1 f.tg), ent P "anti_amount" f.t4 (.int f.an f.tn), ent P "r" f.t5 (.ref f.r), ent P "i" u1 v1, ent P "byte" u2 v2] 7 }
def rotV (am an x : Int) : Int := Builtin.bitOr (Builtin.bitAnd (x * 2 ^ am.toNat) 255) (Int.fdiv x (2 ^ an.toNat))
abbrev rotFor : Stmt := stmtAt (bodyOf rotS) 3
section
variable {w : World} {b1 b2 : Bool} {A : Around}
theorem rot_turn (hh : A.handled = none) {N T : Addr} {f : RF} {q : Option (Tok × Value × Tok × Value)} {i : Nat} {x : Int} {tk t : Tok} {d : Option Addr} {n : Nat} {sl : Array (Option Value)} {bs : Array UInt8} {s : Shared} {Q : Flow → Shared → Prop} {E E2 : Value → Shared → Prop}
    (hnd : [T, N, f.r].Nodup) (hT : s.heap.get? T = some ⟨.type "tuple", d, .seq #[.int i tk, .int x t] n, sl⟩) (hN : s.heap.get? N = some (rotFr (pb w.params b1 b2) f q)) (hr : s.heap.get? f.r = some (BA.baO bs))
    (hi : i < bs.size) (hz : bs.size ≤ 8) (hx : 0 ≤ x ∧ x < 256) (ha : 0 ≤ f.am ∧ f.am ≤ 8) (hn : 0 ≤ f.an) (hv : 0 ≤ rotV f.am f.an x ∧ rotV f.am f.an x < 256)
    (hQ : ∀ h' tk' q', Kp [N, f.r] s.heap h' → h'.get? N = some (rotFr (pb w.params b1 b2) f (some q')) → h'.get? f.r = some (BA.baO (bs.setIfInBounds i (rotV f.am f.an x).toNat.toUInt8)) → Q .next { s with heap := h', toks := tk' }) :
    wpAny (model prg (wb w b1 b2)) A (assign (forTarget rotFor) (rotEnv N) (.ref T)) (fun _ s₂ => wpAny (model prg (wb w b1 b2)) A (execs (forBody rotFor) (rotEnv N)) Q E2 s₂) E s := by
  refine wpAny_assign1 (any_fin hh [(T, ⟨.type "tuple", d, .seq #[.int i tk, .int x t] n, sl⟩), (N, rotFr (pb w.params b1 b2) f q)] 70 [0, 0, 0, 0, 0, 0, 0, 0, 0, 1, 0, 0, 0, 0, 0, 0, 1, 0, 0, 0, 0, 0, 0, 1, 0, 0, 0, 4, 4, 4, 4] (.done .next) [4, 3]
    [(N, rotFr (pb w.params b1 b2) f (some (qk q s.toks, .int i tk, qb q (s.toks + 1), .int x t))), (T, ⟨.type "tuple", d, .seq #[.int i tk, .int x t] n, sl⟩)] 3 2 True ?_ (nd_pick hnd [0, 1] (by decide)) (fun _ _ _ _ _ => by obtain ⟨t1, t2, t3, t4, t5, dd, am, ta, tg, an, tn, r⟩ := f; clear hQ; rcases q with _ | ⟨u1, v1, u2, v2⟩ <;> cases b2 <;> kernel_rfl) trivial (by decide) ?_)
  · simp only [List.mem_cons, List.not_mem_nil, or_false, forall_eq_or_imp, forall_eq]
    exact ⟨hT, hN⟩
  intro h₁ H1
  have K1 : Kp [N] s.heap h₁ := H1.kpM _ fun b hb => by
    have : b ∈ [T, N] := hb
    simp only [List.mem_cons, List.not_mem_nil, or_false] at this
    rcases this with rfl | rfl
    · exact .inr ⟨_, hT, by simp⟩
    · simp
  have hr1 := K1 _ _ hr (nd_out hnd 2 [1] rfl)
  refine wpAny_execs1 (any_fin hh [(N, rotFr (pb w.params b1 b2) f (some (qk q s.toks, .int i tk, qb q (s.toks + 1), .int x t))), (f.r, BA.baO bs)] 40 [0, 0, 0, 0, 0, 0, 1, 1, 1] (.done .next) [0, 1]
    [(N, rotFr (pb w.params b1 b2) f (some (qk q s.toks, .int i tk, qb q (s.toks + 1), .int x t))), (f.r, BA.baO (bs.setIfInBounds i (rotV f.am f.an x).toNat.toUInt8))] 0 5
    ((Value.type "bytearray" = .type "bytearray" ∧ (0 : Int) ≤ i ∧ (i : Int) ≤ 1000 ∧ (i : Int) < bs.size ∧ bs.size ≤ sizeLine ∧ 0 ≤ rotV f.am f.an x ∧ rotV f.am f.an x < 256) ∧ (0 ≤ x ∧ 0 ≤ f.an) ∧ (0 ≤ x ∧ x < 256 ∧ 0 ≤ f.am ∧ f.am ≤ 8) ∧ True)
    ?_ (nd_pick hnd [1, 2] (by decide)) (fun _ _ _ _ _ => by obtain ⟨t1, t2, t3, t4, t5, dd, am, ta, tg, an, tn, r⟩ := f; clear hQ; rcases q with _ | ⟨u1, v1, u2, v2⟩ <;> cases b2 <;> kernel_rfl)
    ⟨⟨rfl, by omega, by omega, by omega, Nat.le_trans hz (by decide +kernel), hv⟩, ⟨hx.1, hn⟩, ⟨hx.1, hx.2, ha⟩, trivial⟩ (by decide) ?_)
  · simp only [List.mem_cons, List.not_mem_nil, or_false, forall_eq_or_imp, forall_eq]
    exact ⟨H1.at 0 rfl, hr1⟩
  intro h₂ H2
  refine hQ _ _ _ ?_ (H2.at 0 rfl) (H2.at 1 rfl)
  exact (K1.mono fun x hx => by simp at hx; simp [hx]).trans (H2.kpM _ fun b hb => .inl hb)
end
end Mine
end

section
open PySem PySem.W PySem.W.X PySem.Builtin PyProof.Rows
set_option maxRecDepth 100000
namespace Mine
theorem byteArr_set (l : List Int) (i : Nat) (v : Int) : (byteArr l).setIfInBounds i v.toNat.toUInt8 = byteArr (l.set i v) := by
  unfold byteArr
  rw [List.setIfInBounds_toArray, List.map_set]
theorem set_mid {l m : List Int} {i : Nat} {v : Int} (hl : m.length = l.length) (hi : i < l.length) (hv : m[i]? = some v) : (m.take i ++ l.drop i).set i v = m.take (i + 1) ++ l.drop (i + 1) := by
  have h1 : (m.take i).length = i := by rw [List.length_take]; omega
  rw [List.set_append_right _ _ (by omega), h1, Nat.sub_self, List.take_add_one, hv, List.drop_eq_getElem_cons hi]
  simp only [List.set_cons_zero, Option.toList_some, List.append_assoc, List.singleton_append]
section
variable {w : World} {b1 b2 : Bool} {A : Around} {R : Result → Shared → Prop}
theorem rot_loop (hh : A.handled = none) {En it N : Addr} {f : RF} {os : List Int} {s : Shared} (hnd : [En, it, N, f.r].Nodup) (hos : os.length ≤ 8) (hr : ∀ n ∈ os, 0 ≤ n ∧ n < 256) (ha : 0 ≤ f.am ∧ f.am ≤ 8) (hn : 0 ≤ f.an) (hv : ∀ x ∈ os, 0 ≤ rotV f.am f.an x ∧ rotV f.am f.an x < 256)
    {old : Value} (hE : IsEnum s.heap En it 0 old) (hit : BA.IsIt s.heap it f.r 0) (hN : s.heap.get? N = some (rotFr (pb w.params b1 b2) f none)) (hrr : s.heap.get? f.r = some (BA.baO (byteArr os)))
    (hR : ∀ h' tk q, Kp [En, it, N, f.r] s.heap h' → h'.get? N = some (rotFr (pb w.params b1 b2) f q) → h'.get? f.r = some (BA.baO (byteArr (os.map (rotV f.am f.an)))) → R (.ok .next) { s with heap := h', toks := tk }) :
    codeAny (model prg (wb w b1 b2)) A (.forLoop (forTarget rotFor) (.ref En) (forBody rotFor) [] (rotEnv N)) R s := by
  have W := WalksT.enumerateD (prog := prg) (w := wb w b1 b2) (A := A) (draws_ba (A := A.in1) hh it f.r (nd_ne hnd 3 1 rfl rfl) (byteArr os)) En (nd_ne hnd 0 1 rfl rfl) (nd_out hnd 0 [1, 3] rfl) (by simp)
  rw [byteArr_size] at W
  have n1 : N ∉ [En, it] := nd_out hnd 2 [0, 1] rfl
  have n2 : f.r ∉ [En, it] := nd_out hnd 3 [0, 1] rfl
  have nN : En ∉ [N, f.r] := nd_out hnd 0 [2, 3] rfl
  have nI : it ∉ [N, f.r] := nd_out hnd 1 [2, 3] rfl
  refine codeAny_forLoop_any (fun n s' => ∃ i h' tk q, i ≤ os.length ∧ n = os.length - i ∧ s' = { s with heap := h', toks := tk } ∧ Kp [En, it, N, f.r] s.heap h' ∧ ((∃ old, IsEnum h' En it i old) ∧ (BA.IsIt h' it f.r i ∧ BA.From h' f.r (byteArr os) i)) ∧ h'.get? N = some (rotFr (pb w.params b1 b2) f q) ∧ h'.get? f.r = some (BA.baO (byteArr ((os.map (rotV f.am f.an)).take i ++ os.drop i)))) ?_ os.length
    ⟨0, s.heap, s.toks, none, Nat.zero_le _, by simp, rfl, Kp.refl _ _, ⟨⟨old, hE⟩, hit, ⟨_, hrr, rfl, fun _ _ => rfl⟩⟩, hN, by simpa using hrr⟩
  rintro n _ ⟨i, h1, tk, q, hi, rfl, rfl, K, hst, e1, e2⟩
  by_cases hlt : i < os.length
  · refine W.item i _ _ _ hlt hst fun T vals h2 tk2 hP hsz hT hM hK => ?_
    obtain ⟨tki, x, ⟨c, u, hc, rfl⟩, rfl⟩ := hP
    refine W.go _ _ _ i T _ _ _ hM fun h3 hst3 hK3 => ?_
    have K2 : Kp [En, it] h1 h2 := fun b o hb hn => hK b o hn hb
    have K3 : Kp [En, it] h2 h3 := fun b o hb hn => hK3 b o hn hb
    have hTn : T ∉ [En, it] := W.apart i T _ hM
    obtain ⟨⟨cT, dT, dtT, slT⟩, hT1, hcT, nT, hdT⟩ := hT
    cases hcT; cases hdT
    have ne : ∀ a o, h1.get? a = some o → T ≠ a := fun a o e => Nat.ne_of_gt (Nat.lt_of_lt_of_le (Heap.lt_size e) hsz)
    have e1' := K3 _ _ (K2 _ _ e1 n1) n1
    have e2' := K3 _ _ (K2 _ _ e2 n2) n2
    have hcv : (c.toNat : Int) = os[i] := by
      rw [byteArr_int hr hc, List.getD_eq_getElem?_getD, List.getElem?_eq_getElem hlt]; rfl
    rw [hcv] at hT1
    have hmem := List.getElem_mem hlt
    have hsize : (byteArr ((os.map (rotV f.am f.an)).take i ++ os.drop i)).size = os.length := by
      rw [byteArr_size, List.length_append, List.length_take, List.length_drop, List.length_map]; omega
    refine rot_turn hh (f := f) (s := { s with heap := h3, toks := tk2 }) (nd3 (ne _ _ e1) (ne _ _ e2) (nd_ne hnd 2 3 rfl rfl)) (K3 _ _ hT1 hTn) e1' e2' (by rw [hsize]; exact hlt) (by rw [hsize]; exact hos) (hr _ hmem) ha hn (hv _ hmem) ?_
    intro h4 tk4 q4 K4 f1 f2
    rw [byteArr_set, set_mid (l := os) (by simp) hlt (by simp [hlt])] at f2
    have K34 := K3.mono (M' := [En, it, N, f.r]) (fun x hx => by simp at hx; rcases hx with h | h <;> simp [h])
    refine ⟨os.length - (i + 1), by omega, i + 1, h4, tk4, some q4, by omega, rfl, rfl, ?_, ?_, f1, f2⟩
    · refine K.trans ((K2.mono fun x hx => ?_).trans (K34.trans (K4.mono fun x hx => ?_)))
      · simp at hx; rcases hx with h | h <;> simp [h]
      · simp at hx; rcases hx with h | h <;> simp [h]
    · obtain ⟨⟨o3, g1⟩, ⟨oi, g2, g3⟩, g4⟩ := hst3
      refine ⟨⟨o3, K4 _ _ g1 nN⟩, ⟨oi, K4 _ _ g2 nI, g3⟩, _, f2, ?_, ?_⟩
      · rw [byteArr_size, byteArr_size, List.length_append, List.length_take, List.length_drop, List.length_map]; omega
      · intro j hj
        unfold byteArr
        rw [List.getElem?_toArray, List.getElem?_toArray, List.getElem?_map, List.getElem?_map, List.getElem?_append_right (by rw [List.length_take, List.length_map]; omega)]
        rw [List.getElem?_drop, List.length_take, List.length_map]
        congr 2
        omega
  · have hie : i = os.length := by omega
    subst hie
    refine W.done _ _ _ hst fun h2 tk2 hK => ?_
    have K2 : Kp [En, it] h1 h2 := fun b o hb hn => hK b o hn hb
    refine wpAny_execs_nil (hR h2 tk2 q (K.trans (K2.mono fun x hx => by simp at hx; rcases hx with h | h <;> simp [h])) (K2 _ _ e1 n1) ?_)
    have := K2 _ _ e2 n2
    rw [List.drop_length, List.append_nil, List.take_of_length_le (by simp)] at this
    exact this
end
end Mine
end

section
open PySem PySem.W PySem.W.X PySem.Builtin PyProof.Rows
set_option maxRecDepth 100000
namespace Mine
/-- as wpAny, under every context no code of which holds a bytearray's export -/
def wpF {α : Type} (M : Model) (A : Around) (t : Sem α) (Q : α → Shared → Prop) (E : Value → Shared → Prop) (s : Shared) : Prop :=
  ∀ Γ p, Γ.In A → FreeC Γ → Sem.wp M Γ t (fun a _ s' => Q a s') (fun e _ s' => E e s') p s
def codeF (M : Model) (A : Around) (c : Code) (R : Result → Shared → Prop) (s : Shared) : Prop :=
  ∀ Γ p, Γ.code = c → Γ.Below A → (∀ x ∈ Γ.below, freeC x.1 = true) → wpCode M Γ R p s
section
variable {α β : Type} {M : Model} {A : Around} {E : Value → Shared → Prop} {s : Shared}
theorem wpF.of {t : Sem α} {Q : α → Shared → Prop} (h : wpAny M A t Q E s) : wpF M A t Q E s := fun Γ p hΓ _ => h Γ p hΓ
theorem codeF.of {c : Code} {R : Result → Shared → Prop} (h : codeAny M A c R s) : codeF M A c R s := fun Γ p hc hΓ _ => h Γ p hc hΓ
theorem wpF.mono {t : Sem α} {Q Q' : α → Shared → Prop} {E' : Value → Shared → Prop} (h : wpF M A t Q E s) (hQ : ∀ a s, Q a s → Q' a s) (hE : ∀ e s, E e s → E' e s) : wpF M A t Q' E' s :=
  fun Γ p hΓ hF => Sem.wp_mono M Γ t (fun a _ s => hQ a s) (fun e _ s => hE e s) p s (h Γ p hΓ hF)
theorem wpF.bind {t : Sem α} {f : α → Sem β} {Q : β → Shared → Prop} (h : wpF M A t (fun a s' => wpF M A (f a) Q E s') E s) : wpF M A (t >>= f) Q E s := fun Γ p hΓ hF => by
  rw [Sem.wp_bind']
  exact Sem.wp_mono M Γ t (fun a p' s' h' => h' Γ p' hΓ hF) (fun _ _ _ h' => h') p s (h Γ p hΓ hF)
theorem wpF.pure {a : α} {Q : α → Shared → Prop} (h : Q a s) : wpF M A (Pure.pure a) Q E s := .of (wpAny_pure h)
theorem wpF.onRaise {t : Sem α} {k : Value → Sem Unit} {Q : α → Shared → Prop} (h : wpF M A t Q (fun e s' => wpF M A (k e) (fun _ s'' => E e s'') E s') s) : wpF M A (t.onRaise k) Q E s := fun Γ p hΓ hF => by
  rw [Sem.wp_onRaise]
  exact Sem.wp_mono M Γ t (fun _ _ _ h' => h') (fun e p' s' h' => h' Γ p' hΓ hF) p s (h Γ p hΓ hF)
theorem wpF.noRaise {t : Sem α} {k : Value → Sem Unit} {Q : α → Shared → Prop} (h : wpF M A t Q (fun _ _ => False) s) : wpF M A (t.onRaise k) Q E s := .onRaise (h.mono (fun _ _ h => h) fun _ _ h => h.elim)
theorem codeF_of_tree {c : Code} {R : Result → Shared → Prop} (hc : freeC c = true)
    (h : wpF M (A.under c) (M.den c) (fun fin s' => match fin with | .done f => R (.ok f) s' | .again c' => c'.quiet = true ∧ codeF M A c' R s') (fun e s' => R (.error e) s') s) : codeF M A c R s := fun Γ p hcc hΓ hb => by
  rw [wpCode_iff_wp, hcc]
  refine Sem.wp_mono M Γ _ (fun fin p' s' h' => ?_) (fun _ _ _ h' => h') p s (h Γ p (hcc ▸ hΓ.in) ⟨by rw [hcc]; exact hc, hb⟩)
  cases fin with
  | done f => exact h'
  | again c' => exact ⟨h'.1, h'.2 (Γ.goto c') p' rfl (hΓ.goto c') hb⟩
theorem codeF_loop' {c : Code} {R : Result → Shared → Prop} (hf : freeC c = true) (hq : c.quiet = true) (I : Nat → Shared → Prop)
    (turn : ∀ n s, I n s → wpF M (A.under c) (M.den c)
      (fun fin s' => match fin with
        | .done f => R (.ok f) s'
        | .again c' => (c' = c ∧ ∃ m, m < n ∧ I m s') ∨ (c'.quiet = true ∧ codeF M A c' R s')) (fun e s' => R (.error e) s') s)
    (n : Nat) (h : I n s) : codeF M A c R s := by
  induction n using Nat.strongRecOn generalizing s with
  | ind n ih =>
    refine codeF_of_tree hf ((turn n s h).mono (fun fin s' hf => ?_) fun _ _ h' => h')
    cases fin with
    | done f => exact hf
    | again c' =>
      rcases hf with ⟨rfl, m, hm, hI⟩ | hf
      · exact ⟨hq, ih m hm hI⟩
      · exact hf
theorem wpF_execs_append {env : Env} {Q : Flow → Shared → Prop} (a b : List Stmt) (h : wpF M A (execs a env) (fun f s' => match f with | .next => wpF M A (execs b env) Q E s' | f => Q f s') E s) : wpF M A (execs (a ++ b) env) Q E s := fun Γ p hΓ hF =>
  wp_execs_append b a p s (Sem.wp_mono M Γ _ (fun f p' s' h' => by cases f <;> first | exact h' Γ p' hΓ hF | exact h') (fun _ _ _ h' => h') _ _ (h Γ p hΓ hF))
theorem wpF_execs_cons {st : Stmt} {b : List Stmt} {env : Env} {Q : Flow → Shared → Prop} (h : wpF M A (execs [st] env) (fun f s' => match f with | .next => wpF M A (execs b env) Q E s' | f => Q f s') E s) : wpF M A (execs (st :: b) env) Q E s :=
  wpF_execs_append [st] b h
theorem wpF_flowF {t : Sem Flow} {Q : Flow → Shared → Prop} (h : wpF M A (flowF t) (FlowQ Q) E s) : wpF M A t Q E s := fun Γ p hΓ hF => by
  have z := h Γ p hΓ hF
  unfold flowF at z
  rw [show t.bind (fun v => Sem.pure (Fin.done v)) = (t >>= fun v => Sem.pure (Fin.done v)) from rfl, Sem.wp_bind'] at z
  simpa only [Sem.wp_pure] using z
theorem wpF_execs1l {l : List Stmt} {env : Env} {Q : Flow → Shared → Prop} (h : wpF M A (flowF (execsX l env)) (FlowQ Q) E s) : wpF M A (execs l env) Q E s := by
  rw [execs_eq]; exact wpF_flowF h
theorem wpF_execs1 {st : Stmt} {env : Env} {Q : Flow → Shared → Prop} (h : wpF M A (flowF (execsX [st] env)) (FlowQ Q) E s) : wpF M A (execs [st] env) Q E s := by
  rw [execs_eq]; exact wpF_flowF h
end
section
variable {prog : Program} {w : World} {A : Around} {s : Shared} {R : Result → Shared → Prop}
theorem enter_f {t : Sem Fin} {Q : Fin → Shared → Prop} {E : Value → Shared → Prop} (hh : A.handled = none)
    (h : ∀ c own below past p, (⟨c, none, own, below, past⟩ : Ctx).In A → FreeC ⟨c, none, own, below, past⟩ →
      W (model prog w) ⟨c, none, own, below, past⟩ (fun a _ s' => Q a s') (fun e _ s' => E e s') .base t p s) : wpF (model prog w) A t Q E s := by
  rintro ⟨c, hd, own, below, past⟩ p hI hF
  have h1 : hd = none := hI.1.trans hh
  subst h1
  exact h c own below past p hI hF
theorem f_fin {t : Sem Fin} {Q : Fin → Shared → Prop} {E : Value → Shared → Prop} (hh : A.handled = none) (L : List (Addr × Obj)) (n : Nat) (tr : List Nat) (fin : Fin) (is : List Nat) (L' : List (Addr × Obj)) (m' i' : Nat) (P' : PySem.Ctx → Prop)
    (hL : ∀ x ∈ L, s.heap.get? x.1 = some x.2) (hn : (L.map (·.1)).Nodup)
    (e : ∀ c own below past p, resX (runL prog w ⟨c, none, own, below, past⟩ s .base t p L n tr) is = (.base, .pure fin, L', m', i', P' ⟨c, none, own, below, past⟩, (runL prog w ⟨c, none, own, below, past⟩ s .base t p L n tr).bs)) (hP : ∀ Γ, FreeC Γ → P' Γ) (his : is.Nodup)
    (hk : ∀ h', HS s.heap h' (L.map (·.1)) L' m' → Q fin { s with heap := h', toks := s.toks + i' }) : wpF (model prog w) A t Q E s :=
  enter_f hh fun c own below past p _ hF => go_fin L n tr (.pure fin) is L' m' i' _ hL hn (e c own below past p) (hP _ hF) his fun h' _ H => base_done' (hk h' H)
noncomputable abbrev resCF (G : Ctx) (X : St) (is : List Nat) : Prop × Bool × Option (Code × Option Value) × Option Value × List (Addr × Obj) × Nat × Nat × Prop × List Addr :=
  (freeK G X.κ, nobp X.κ, callC X.t, (ctxOf G X.κ).handled, pickL X.L is, X.m, X.i, X.ps, X.as)
theorem go_callF {G : Ctx} {Q : PFin} {E : PErr} {κ : K} {t : Sem Fin} {p : Pos} {A : Around} (hIn : G.In A) (hF : FreeC G) (L : List (Addr × Obj)) (n : Nat) (tr : List Nat) (c' : Code) (is : List Nat) (L' : List (Addr × Obj)) (m' i' : Nat) (P' : Prop)
    (hL : ∀ x ∈ L, s.heap.get? x.1 = some x.2) (hn : (L.map (·.1)).Nodup)
    (e : resCF G (runL prog w G s κ t p L n tr) is = (FreeC G, true, some (c', none), none, L', m', i', P', (runL prog w G s κ t p L n tr).bs)) (hP : P') (his : is.Nodup)
    (hk : ∀ h', HS s.heap h' (L.map (·.1)) L' m' → ∀ A', A' = aroundK A (runL prog w G s κ t p L n tr).κ → A'.handled = none →
      codeF (model prog w) A' c' (fun r s' => W (model prog w) G Q E (runL prog w G s κ t p L n tr).κ (callK (runL prog w G s κ t p L n tr).t r) (runL prog w G s κ t p L n tr).p s') { s with heap := h', toks := s.toks + i' }) :
    W (model prog w) G Q E κ t p s := by
  simp only [resCF, Prod.mk.injEq] at e
  obtain ⟨e9, e2, e3, e8, e4, e5, e6, e7, e1⟩ := e
  refine seg_any L n tr hL hn is L' m' i' P' e1 e4 e5 e6 e7 hP his fun h' H => ?_
  have hin := in_ctx' hIn _ (noByPass_of e2)
  have hfr : FreeC (ctxOf G (runL prog w G s κ t p L n tr).κ) := freeK_free (by rw [e9]; exact hF)
  refine W_callC e3 ?_
  have hb := hin.enter c' none (runL prog w G s κ t p L n tr).p (by simp)
  have z := hk h' H _ rfl (hin.1.symm.trans e8)
  have hm : ∀ A : Around, A.mark none = A := fun A => by cases A; rfl
  rw [hm] at hb
  refine z _ _ rfl hb fun x hx => ?_
  rcases List.mem_cons.mp hx with rfl | hx
  · exact hfr.1
  · exact hfr.2 x hx
theorem codeF_func {body : List Stmt} {env : Env} (h : wpF (model prog w) (A.deeper env) (execs body env) (fun f s' => R (.ok (.ret (match f with | .ret v => v | _ => .none))) s') (fun _ _ => False) s) : codeF (model prog w) A (.func body env) R s := by
  refine codeF_of_tree rfl ?_
  show wpF _ (A.deeper env) (do point; match ← (execs body env).onRaise (leaving env) with | .ret v => ret v | _ => ret .none) _ _ s
  refine .bind (.of (wpAny_point ?_))
  refine .bind (.noRaise (h.mono (fun f s' h' => ?_) fun _ _ h => h.elim))
  cases f <;> exact .pure h'
theorem codeF_call_function {a : Addr} {args : Args} {o : Obj} {fd : FuncData} {body : List Stmt} (hroom : A.depth < recursionLimit)
    (ho : s.heap.get? a = some o)
    (hd' : o.data = .func fd) (hco : fd.scope.isCoroutine = false) (hgen : fd.scope.isGenerator = false) (hbody : fd.body = .stmts body) (hcd : s.heap.CodeRec fd.code fd.qualname)
    (h : wpAny (model prog w) A.in1 (bindArgs fd args) (fun binds s₁ =>
      wpAny (model prog w) A.in1 (newFunctionEnv fd.scope fd.globals fd.closure binds (fd.qualname ++ ".<locals>.") (some a) fd.code none fd.builtins)
        (fun env s₂ => s₂.heap.NoLimit ∧ codeF (model prog w) A (.func body env) R s₂) (fun e s' => R (.error e) s') s₁) (fun e s' => R (.error e) s') s) :
    codeF (model prog w) A (.call (.ref a) args) R s := by
  refine codeF_of_tree rfl (.of ?_)
  show wpAny _ A.in1 (callAny (.ref a) args) _ _ s
  simp only [callAny]
  refine wpAny_bind (wpAny_load ho ?_)
  obtain ⟨c, oc, vs, tq, hc, hoc, hdc, hq⟩ := hcd
  simp only [hd', callFunction, hco, hgen, hbody, hc]
  rw [hc] at h
  refine wpAny_bind (m := field (.ref c) 1) (wpAny_field hoc hdc hq (wpAny_bind (wpAny_pure ?_)))
  exact wpAny_bind (wpAny_mono h (fun binds s₁ h₁ => wpAny_bind (wpAny_mono h₁ (fun env s₂ h₂ => wpAny_bind (wpAny_enterFrame h₂.1 hroom
    (wpAny_pure (And.intro rfl h₂.2)))) fun _ _ h' => h')) fun _ _ h' => h')
theorem codeF_forLoop {target : Expr} {it : Value} {body : List Stmt} {env : Env} (I : Nat → Shared → Prop)
    (turn : ∀ n s, I n s → wpAny (model prog w) A (pyNext it) (fun r s₁ => match r with
      | none => R (.ok .next) s₁
      | some v => wpAny (model prog w) A (letOwnedTupleGo target it v) (fun _ s₁' =>
          wpAny (model prog w) A (assign target env v) (fun _ s₂ => wpF (model prog w) A (execs body env) (fun f s₃ => match f with
            | .next | .cont => ∃ m, m < n ∧ I m s₃
            | .brk => R (.ok .next) s₃
            | .ret v => R (.ok (.ret v)) s₃) (fun _ _ => False) s₂) (fun _ _ => False) s₁') (fun _ _ => False) s₁) (fun _ _ => False) s)
    (n : Nat) (h : I n s) : codeF (model prog w) A (.forLoop target it body [] env) R s := by
  refine codeF_loop' rfl rfl I (fun n s hI => ?_) n h
  show wpF _ A ((forTurn target it body [] env).onRaise (fun x => do noteFrame x env; theTreesLotGoes x)) _ _ s
  refine .noRaise ?_
  simp only [forTurn]
  refine .bind (.of (wpAny_standAt ?_))
  refine .bind (.of (wpAny_onRaise (wpAny_mono (turn n s hI) (fun r s₁ h₁ => ?_) fun _ _ h' => h'.elim)))
  cases r with
  | none =>
    refine .pure (.inr ⟨rfl, codeF_of_tree rfl ?_⟩)
    show wpF _ A (do return Fin.done (← (execs [] env).onRaise (fun x => do noteFrame x env; theTreesLotGoes x))) _ _ s₁
    exact .bind (.noRaise (.of (wpAny_execs_nil (wpF.pure h₁))))
  | some v =>
    refine .bind ((wpF.of h₁).mono (fun _ s₁' h₁' => ?_) fun _ _ h' => h'.elim)
    refine .bind ((wpF.of h₁').mono (fun _ s₂ h₂ => .bind (h₂.mono (fun f s₃ h₃ => ?_) fun _ _ h' => h'.elim)) fun _ _ h' => h'.elim)
    cases f with
    | next => exact .pure (.inl ⟨rfl, h₃⟩)
    | cont => exact .pure (.inl ⟨rfl, h₃⟩)
    | brk => exact .pure h₃
    | ret v => exact .pure h₃
end
end Mine
end

section
open PySem PySem.W PySem.W.X PySem.Builtin PyProof.Rows
set_option maxRecDepth 100000
set_option linter.unusedVariables false
set_option linter.unusedSimpArgs false
namespace Mine
structure LF where
  (t1 t2 t3 t4 t5 t6 t7 t8 t9 t10 t11 t12 t13 : Tok) (script deeds first rows data done x kind group before handed refused told : Value) (sl : Array (Option Value))
def lawEnts (P : Params) (f : LF) : List DictEntry :=
  [ent P "script" f.t1 f.script, ent P "deeds" f.t2 f.deeds, ent P "first" f.t3 f.first, ent P "rows" f.t4 f.rows, ent P "data" f.t5 f.data, ent P "done" f.t6 f.done, ent P "x" f.t7 f.x,
    ent P "kind" f.t8 f.kind, ent P "group" f.t9 f.group, ent P "before" f.t10 f.before, ent P "handed" f.t11 f.handed, ent P "refused" f.t12 f.refused, ent P "told" f.t13 f.told]
/-- the law's frame object, its first n names set -/
def lawFr (P : Params) (f : LF) (n : Nat) : Obj := { cls := .type "frame", data := .dict ((lawEnts P f).take n).toArray n, slots := f.sl }
section
variable {w : World} {b1 b2 : Bool} {A : Around} {s : Shared} {Q : Flow → Shared → Prop} {E : Value → Shared → Prop}

theorem st_kind (hh : A.handled = none) {L ca ck cm : Addr} {f : LF} {n : Nat} {x : Int} {t : Tok} (hn : n = 7 ∨ n = 13) (hf_x : f.x = .int x t) (hL : s.heap.get? L = some (lawFr (pb w.params b1 b2) f n)) 
    (hQ : ∀ h' tk (tt uu : Tok) n', (n' = 8 ∨ n' = 13) → Kp [L] s.heap h' → h'.get? L = some (lawFr (pb w.params b1 b2) { f with t8 := tt, kind := .int (Int.fmod x 4) uu } n') → Q .next { s with heap := h', toks := tk }) :
    wpAny (model prg (wb w b1 b2)) A (execs [stmtAt dB 0] (lawEnv L ca ck cm)) Q E s := by
  have hfe : f = { f with x := .int x t } := by cases f; cases hf_x; rfl
  rcases hn with rfl | rfl
  · refine wpAny_execs1 (any_fin hh [(L, lawFr (pb w.params b1 b2) { f with x := .int x t } 7)] 16 [0, 0, 0] (.done .next) [0] [(L, lawFr (pb w.params b1 b2) { f with x := .int x t, t8 := (s.toks + 2), kind := .int (Int.fmod x 4) (s.toks + 1) } 8)] 0 3 (True) ?_ (by simp) (fun _ _ _ _ _ => by clear hQ; kernel_rfl) (trivial) (by decide) ?_)
    · simp only [List.mem_cons, List.not_mem_nil, or_false, forall_eq_or_imp, forall_eq]
      exact by rw [hL]; exact congrArg some (congrArg (fun f => lawFr (pb w.params b1 b2) f 7) hfe)
    intro h' H
    exact hQ _ _ (s.toks + 2) (s.toks + 1) _ (.inl rfl) (H.kpM _ (fun b hb => by
        have : b ∈ [L] := hb
        simp only [List.mem_cons, List.not_mem_nil, or_false] at this
        rcases Or.inl (b := False) this with g0 | g1
        · exact .inl (by rw [g0]; simp)
        · exact g1.elim)) ((H.at 0 rfl).trans (congrArg some (congrArg (fun z => lawFr (pb w.params b1 b2) z 8) (by cases f; cases hf_x; rfl))))
  · refine wpAny_execs1 (any_fin hh [(L, lawFr (pb w.params b1 b2) { f with x := .int x t } 13)] 16 [0, 0, 0] (.done .next) [0] [(L, lawFr (pb w.params b1 b2) { f with x := .int x t, t8 := f.t8, kind := .int (Int.fmod x 4) (s.toks + 1) } 13)] 0 3 (True) ?_ (by simp) (fun _ _ _ _ _ => by clear hQ; kernel_rfl) (trivial) (by decide) ?_)
    · simp only [List.mem_cons, List.not_mem_nil, or_false, forall_eq_or_imp, forall_eq]
      exact by rw [hL]; exact congrArg some (congrArg (fun f => lawFr (pb w.params b1 b2) f 13) hfe)
    intro h' H
    exact hQ _ _ f.t8 (s.toks + 1) _ (.inr rfl) (H.kpM _ (fun b hb => by
        have : b ∈ [L] := hb
        simp only [List.mem_cons, List.not_mem_nil, or_false] at this
        rcases Or.inl (b := False) this with g0 | g1
        · exact .inl (by rw [g0]; simp)
        · exact g1.elim)) ((H.at 0 rfl).trans (congrArg some (congrArg (fun z => lawFr (pb w.params b1 b2) z 13) (by cases f; cases hf_x; rfl))))
theorem st_arg (hh : A.handled = none) {L ca ck cm : Addr} {f : LF} {n : Nat} {x : Int} {t : Tok} {v : Option Value} (hn : n = 8 ∨ n = 13) (hnd : [L, ca].Nodup) (hf_x : f.x = .int x t) (hL : s.heap.get? L = some (lawFr (pb w.params b1 b2) f n)) (ho0 : s.heap.get? ca = some (cellO v))
    (hQ : ∀ h' tk (uu : Tok), Kp [ca] s.heap h' → h'.get? ca = some (cellO (some (.int (Int.fdiv x 4) uu))) → Q .next { s with heap := h', toks := tk }) :
    wpAny (model prg (wb w b1 b2)) A (execs [stmtAt dB 1] (lawEnv L ca ck cm)) Q E s := by
  have hfe : f = { f with x := .int x t } := by cases f; cases hf_x; rfl
  rcases hn with rfl | rfl
  · refine wpAny_execs1 (any_fin hh [(L, lawFr (pb w.params b1 b2) { f with x := .int x t } 8), (ca, cellO v)] 11 [0, 1, 1] (.done .next) [0, 1] [(L, lawFr (pb w.params b1 b2) { f with x := .int x t } 8), (ca, cellO (some (.int (Int.fdiv x 4) (s.toks + 1))))] 0 2 (((4 : Int) ≠ 0 ∧ Builtin.divisionGoesByPylong x 4 = false) ∧ True) ?_ hnd (fun _ _ _ _ _ => by clear hQ; kernel_rfl) (⟨⟨by decide, pyl _ _ (by decide)⟩, trivial⟩) (by decide) ?_)
    · simp only [List.mem_cons, List.not_mem_nil, or_false, forall_eq_or_imp, forall_eq]
      exact ⟨by rw [hL]; exact congrArg some (congrArg (fun f => lawFr (pb w.params b1 b2) f 8) hfe), ho0⟩
    intro h' H
    exact hQ _ _ (s.toks + 1) (H.kpM _ (fun b hb => by
        have : b ∈ [L, ca] := hb
        simp only [List.mem_cons, List.not_mem_nil, or_false] at this
        rcases this with g0 | g1
        · exact .inr (by rw [g0]; exact ⟨_, (by rw [hL]; exact congrArg some (congrArg (fun f => lawFr (pb w.params b1 b2) f 8) hfe) : s.heap.get? L = some (lawFr (pb w.params b1 b2) { f with x := .int x t } 8)), by simp⟩)
        · exact .inl (by rw [g1]; simp))) (H.at 1 rfl)
  · refine wpAny_execs1 (any_fin hh [(L, lawFr (pb w.params b1 b2) { f with x := .int x t } 13), (ca, cellO v)] 11 [0, 1, 1] (.done .next) [0, 1] [(L, lawFr (pb w.params b1 b2) { f with x := .int x t } 13), (ca, cellO (some (.int (Int.fdiv x 4) (s.toks + 1))))] 0 2 (((4 : Int) ≠ 0 ∧ Builtin.divisionGoesByPylong x 4 = false) ∧ True) ?_ hnd (fun _ _ _ _ _ => by clear hQ; kernel_rfl) (⟨⟨by decide, pyl _ _ (by decide)⟩, trivial⟩) (by decide) ?_)
    · simp only [List.mem_cons, List.not_mem_nil, or_false, forall_eq_or_imp, forall_eq]
      exact ⟨by rw [hL]; exact congrArg some (congrArg (fun f => lawFr (pb w.params b1 b2) f 13) hfe), ho0⟩
    intro h' H
    exact hQ _ _ (s.toks + 1) (H.kpM _ (fun b hb => by
        have : b ∈ [L, ca] := hb
        simp only [List.mem_cons, List.not_mem_nil, or_false] at this
        rcases this with g0 | g1
        · exact .inr (by rw [g0]; exact ⟨_, (by rw [hL]; exact congrArg some (congrArg (fun f => lawFr (pb w.params b1 b2) f 13) hfe) : s.heap.get? L = some (lawFr (pb w.params b1 b2) { f with x := .int x t } 13)), by simp⟩)
        · exact .inl (by rw [g1]; simp))) (H.at 1 rfl)
theorem st_amount (hh : A.handled = none) {L ca ck cm : Addr} {f : LF} {n : Nat} {x : Int} {t : Tok} {v : Option Value} (hn : n = 8 ∨ n = 13) (hnd : [L, ca, cm].Nodup)  (hL : s.heap.get? L = some (lawFr (pb w.params b1 b2) f n)) (ho0 : s.heap.get? ca = some (cellO (some (.int x t)))) (ho1 : s.heap.get? cm = some (cellO v))
    (hQ : ∀ h' tk (uu : Tok), Kp [cm] s.heap h' → h'.get? cm = some (cellO (some (.int (Int.fmod x 9) uu))) → Q .next { s with heap := h', toks := tk }) :
    wpAny (model prg (wb w b1 b2)) A (execs [stmtAt dB 3] (lawEnv L ca ck cm)) Q E s := by
  rcases hn with rfl | rfl
  · refine wpAny_execs1 (any_fin hh [(L, lawFr (pb w.params b1 b2) f 8), (ca, cellO (some (.int x t))), (cm, cellO v)] 14 [1, 2, 2] (.done .next) [0, 1, 2] [(L, lawFr (pb w.params b1 b2) f 8), (ca, cellO (some (.int x t))), (cm, cellO (some (.int (Int.fmod x 9) (s.toks + 1))))] 0 2 (True) ?_ hnd (fun _ _ _ _ _ => by clear hQ; kernel_rfl) (trivial) (by decide) ?_)
    · simp only [List.mem_cons, List.not_mem_nil, or_false, forall_eq_or_imp, forall_eq]
      exact ⟨hL, ho0, ho1⟩
    intro h' H
    exact hQ _ _ (s.toks + 1) (H.kpM _ (fun b hb => by
        have : b ∈ [L, ca, cm] := hb
        simp only [List.mem_cons, List.not_mem_nil, or_false] at this
        rcases this with g0 | g1 | g2
        · exact .inr (by rw [g0]; exact ⟨_, (hL : s.heap.get? L = some (lawFr (pb w.params b1 b2) f 8)), by simp⟩)
        · exact .inr (by rw [g1]; exact ⟨_, ho0, by simp⟩)
        · exact .inl (by rw [g2]; simp))) (H.at 2 rfl)
  · refine wpAny_execs1 (any_fin hh [(L, lawFr (pb w.params b1 b2) f 13), (ca, cellO (some (.int x t))), (cm, cellO v)] 14 [1, 2, 2] (.done .next) [0, 1, 2] [(L, lawFr (pb w.params b1 b2) f 13), (ca, cellO (some (.int x t))), (cm, cellO (some (.int (Int.fmod x 9) (s.toks + 1))))] 0 2 (True) ?_ hnd (fun _ _ _ _ _ => by clear hQ; kernel_rfl) (trivial) (by decide) ?_)
    · simp only [List.mem_cons, List.not_mem_nil, or_false, forall_eq_or_imp, forall_eq]
      exact ⟨hL, ho0, ho1⟩
    intro h' H
    exact hQ _ _ (s.toks + 1) (H.kpM _ (fun b hb => by
        have : b ∈ [L, ca, cm] := hb
        simp only [List.mem_cons, List.not_mem_nil, or_false] at this
        rcases this with g0 | g1 | g2
        · exact .inr (by rw [g0]; exact ⟨_, (hL : s.heap.get? L = some (lawFr (pb w.params b1 b2) f 13)), by simp⟩)
        · exact .inr (by rw [g1]; exact ⟨_, ho0, by simp⟩)
        · exact .inl (by rw [g2]; simp))) (H.at 2 rfl)
theorem st_group (hh : A.handled = none) {L ca ck cm : Addr} {f : LF} {n : Nat}  (hn : n = 8 ∨ n = 13)  (hL : s.heap.get? L = some (lawFr (pb w.params b1 b2) f n)) 
    (hQ : ∀ h' tk (tt uu : Tok) n', (n' = 9 ∨ n' = 13) → Kp [L] s.heap h' → h'.get? L = some (lawFr (pb w.params b1 b2) { f with t9 := tt, group := .int 1 uu } n') → Q .next { s with heap := h', toks := tk }) :
    wpAny (model prg (wb w b1 b2)) A (execs [stmtAt dB 4] (lawEnv L ca ck cm)) Q E s := by
  rcases hn with rfl | rfl
  · refine wpAny_execs1 (any_fin hh [(L, lawFr (pb w.params b1 b2) f 8)] 9 [0, 0] (.done .next) [0] [(L, lawFr (pb w.params b1 b2) { f with t9 := (s.toks + 1), group := .int 1 (s.toks + 0) } 9)] 0 2 (True) ?_ (by simp) (fun _ _ _ _ _ => by clear hQ; kernel_rfl) (trivial) (by decide) ?_)
    · simp only [List.mem_cons, List.not_mem_nil, or_false, forall_eq_or_imp, forall_eq]
      exact hL
    intro h' H
    exact hQ _ _ (s.toks + 1) (s.toks + 0) _ (.inl rfl) (H.kpM _ (fun b hb => by
        have : b ∈ [L] := hb
        simp only [List.mem_cons, List.not_mem_nil, or_false] at this
        rcases Or.inl (b := False) this with g0 | g1
        · exact .inl (by rw [g0]; simp)
        · exact g1.elim)) ((H.at 0 rfl).trans (congrArg some (congrArg (fun z => lawFr (pb w.params b1 b2) z 9) (by cases f; rfl))))
  · refine wpAny_execs1 (any_fin hh [(L, lawFr (pb w.params b1 b2) f 13)] 9 [0, 0] (.done .next) [0] [(L, lawFr (pb w.params b1 b2) { f with t9 := f.t9, group := .int 1 (s.toks + 0) } 13)] 0 2 (True) ?_ (by simp) (fun _ _ _ _ _ => by clear hQ; kernel_rfl) (trivial) (by decide) ?_)
    · simp only [List.mem_cons, List.not_mem_nil, or_false, forall_eq_or_imp, forall_eq]
      exact hL
    intro h' H
    exact hQ _ _ f.t9 (s.toks + 0) _ (.inr rfl) (H.kpM _ (fun b hb => by
        have : b ∈ [L] := hb
        simp only [List.mem_cons, List.not_mem_nil, or_false] at this
        rcases Or.inl (b := False) this with g0 | g1
        · exact .inl (by rw [g0]; simp)
        · exact g1.elim)) ((H.at 0 rfl).trans (congrArg some (congrArg (fun z => lawFr (pb w.params b1 b2) z 13) (by cases f; rfl))))
theorem st_group3_0 (hh : A.handled = none) {L ca ck cm : Addr} {f : LF} {n : Nat} {t : Tok} (hn : n = 9 ∨ n = 13) (hf_kind : f.kind = .int 0 t) (hL : s.heap.get? L = some (lawFr (pb w.params b1 b2) f n)) 
    (hQ : ∀ h' tk (uu : Tok), Kp [] s.heap h' → Q .next { s with heap := h', toks := tk }) :
    wpAny (model prg (wb w b1 b2)) A (execs [stmtAt dB 6] (lawEnv L ca ck cm)) Q E s := by
  have hfe : f = { f with kind := .int 0 t } := by cases f; cases hf_kind; rfl
  rcases hn with rfl | rfl
  · refine wpAny_execs1 (any_fin hh [(L, lawFr (pb w.params b1 b2) { f with kind := .int 0 t } 9)] 9 [0] (.done .next) [0] [(L, lawFr (pb w.params b1 b2) { f with kind := .int 0 t } 9)] 0 1 (True) ?_ (by simp) (fun _ _ _ _ _ => by clear hQ; cases b2 <;> kernel_rfl) (trivial) (by decide) ?_)
    · simp only [List.mem_cons, List.not_mem_nil, or_false, forall_eq_or_imp, forall_eq]
      exact by rw [hL]; exact congrArg some (congrArg (fun f => lawFr (pb w.params b1 b2) f 9) hfe)
    intro h' H
    exact hQ _ _ 0 (H.kpM _ (fun b hb => by
        have : b ∈ [L] := hb
        simp only [List.mem_cons, List.not_mem_nil, or_false] at this
        rcases Or.inl (b := False) this with g0 | g1
        · exact .inr (by rw [g0]; exact ⟨_, (by rw [hL]; exact congrArg some (congrArg (fun f => lawFr (pb w.params b1 b2) f 9) hfe) : s.heap.get? L = some (lawFr (pb w.params b1 b2) { f with kind := .int 0 t } 9)), by simp⟩)
        · exact g1.elim))
  · refine wpAny_execs1 (any_fin hh [(L, lawFr (pb w.params b1 b2) { f with kind := .int 0 t } 13)] 9 [0] (.done .next) [0] [(L, lawFr (pb w.params b1 b2) { f with kind := .int 0 t } 13)] 0 1 (True) ?_ (by simp) (fun _ _ _ _ _ => by clear hQ; cases b2 <;> kernel_rfl) (trivial) (by decide) ?_)
    · simp only [List.mem_cons, List.not_mem_nil, or_false, forall_eq_or_imp, forall_eq]
      exact by rw [hL]; exact congrArg some (congrArg (fun f => lawFr (pb w.params b1 b2) f 13) hfe)
    intro h' H
    exact hQ _ _ 0 (H.kpM _ (fun b hb => by
        have : b ∈ [L] := hb
        simp only [List.mem_cons, List.not_mem_nil, or_false] at this
        rcases Or.inl (b := False) this with g0 | g1
        · exact .inr (by rw [g0]; exact ⟨_, (by rw [hL]; exact congrArg some (congrArg (fun f => lawFr (pb w.params b1 b2) f 13) hfe) : s.heap.get? L = some (lawFr (pb w.params b1 b2) { f with kind := .int 0 t } 13)), by simp⟩)
        · exact g1.elim))
theorem st_group3_1 (hh : A.handled = none) {L ca ck cm : Addr} {f : LF} {n : Nat} {t : Tok} (hn : n = 9 ∨ n = 13) (hf_kind : f.kind = .int 1 t) (hL : s.heap.get? L = some (lawFr (pb w.params b1 b2) f n)) 
    (hQ : ∀ h' tk (uu : Tok), Kp [] s.heap h' → Q .next { s with heap := h', toks := tk }) :
    wpAny (model prg (wb w b1 b2)) A (execs [stmtAt dB 6] (lawEnv L ca ck cm)) Q E s := by
  have hfe : f = { f with kind := .int 1 t } := by cases f; cases hf_kind; rfl
  rcases hn with rfl | rfl
  · refine wpAny_execs1 (any_fin hh [(L, lawFr (pb w.params b1 b2) { f with kind := .int 1 t } 9)] 9 [0] (.done .next) [0] [(L, lawFr (pb w.params b1 b2) { f with kind := .int 1 t } 9)] 0 1 (True) ?_ (by simp) (fun _ _ _ _ _ => by clear hQ; cases b2 <;> kernel_rfl) (trivial) (by decide) ?_)
    · simp only [List.mem_cons, List.not_mem_nil, or_false, forall_eq_or_imp, forall_eq]
      exact by rw [hL]; exact congrArg some (congrArg (fun f => lawFr (pb w.params b1 b2) f 9) hfe)
    intro h' H
    exact hQ _ _ 0 (H.kpM _ (fun b hb => by
        have : b ∈ [L] := hb
        simp only [List.mem_cons, List.not_mem_nil, or_false] at this
        rcases Or.inl (b := False) this with g0 | g1
        · exact .inr (by rw [g0]; exact ⟨_, (by rw [hL]; exact congrArg some (congrArg (fun f => lawFr (pb w.params b1 b2) f 9) hfe) : s.heap.get? L = some (lawFr (pb w.params b1 b2) { f with kind := .int 1 t } 9)), by simp⟩)
        · exact g1.elim))
  · refine wpAny_execs1 (any_fin hh [(L, lawFr (pb w.params b1 b2) { f with kind := .int 1 t } 13)] 9 [0] (.done .next) [0] [(L, lawFr (pb w.params b1 b2) { f with kind := .int 1 t } 13)] 0 1 (True) ?_ (by simp) (fun _ _ _ _ _ => by clear hQ; cases b2 <;> kernel_rfl) (trivial) (by decide) ?_)
    · simp only [List.mem_cons, List.not_mem_nil, or_false, forall_eq_or_imp, forall_eq]
      exact by rw [hL]; exact congrArg some (congrArg (fun f => lawFr (pb w.params b1 b2) f 13) hfe)
    intro h' H
    exact hQ _ _ 0 (H.kpM _ (fun b hb => by
        have : b ∈ [L] := hb
        simp only [List.mem_cons, List.not_mem_nil, or_false] at this
        rcases Or.inl (b := False) this with g0 | g1
        · exact .inr (by rw [g0]; exact ⟨_, (by rw [hL]; exact congrArg some (congrArg (fun f => lawFr (pb w.params b1 b2) f 13) hfe) : s.heap.get? L = some (lawFr (pb w.params b1 b2) { f with kind := .int 1 t } 13)), by simp⟩)
        · exact g1.elim))
theorem st_group3_2 (hh : A.handled = none) {L ca ck cm : Addr} {f : LF} {n : Nat} {t : Tok} (hn : n = 9 ∨ n = 13) (hf_kind : f.kind = .int 2 t) (hL : s.heap.get? L = some (lawFr (pb w.params b1 b2) f n)) 
    (hQ : ∀ h' tk (uu : Tok), Kp [] s.heap h' → Q .next { s with heap := h', toks := tk }) :
    wpAny (model prg (wb w b1 b2)) A (execs [stmtAt dB 6] (lawEnv L ca ck cm)) Q E s := by
  have hfe : f = { f with kind := .int 2 t } := by cases f; cases hf_kind; rfl
  rcases hn with rfl | rfl
  · refine wpAny_execs1 (any_fin hh [(L, lawFr (pb w.params b1 b2) { f with kind := .int 2 t } 9)] 9 [0] (.done .next) [0] [(L, lawFr (pb w.params b1 b2) { f with kind := .int 2 t } 9)] 0 1 (True) ?_ (by simp) (fun _ _ _ _ _ => by clear hQ; cases b2 <;> kernel_rfl) (trivial) (by decide) ?_)
    · simp only [List.mem_cons, List.not_mem_nil, or_false, forall_eq_or_imp, forall_eq]
      exact by rw [hL]; exact congrArg some (congrArg (fun f => lawFr (pb w.params b1 b2) f 9) hfe)
    intro h' H
    exact hQ _ _ 0 (H.kpM _ (fun b hb => by
        have : b ∈ [L] := hb
        simp only [List.mem_cons, List.not_mem_nil, or_false] at this
        rcases Or.inl (b := False) this with g0 | g1
        · exact .inr (by rw [g0]; exact ⟨_, (by rw [hL]; exact congrArg some (congrArg (fun f => lawFr (pb w.params b1 b2) f 9) hfe) : s.heap.get? L = some (lawFr (pb w.params b1 b2) { f with kind := .int 2 t } 9)), by simp⟩)
        · exact g1.elim))
  · refine wpAny_execs1 (any_fin hh [(L, lawFr (pb w.params b1 b2) { f with kind := .int 2 t } 13)] 9 [0] (.done .next) [0] [(L, lawFr (pb w.params b1 b2) { f with kind := .int 2 t } 13)] 0 1 (True) ?_ (by simp) (fun _ _ _ _ _ => by clear hQ; cases b2 <;> kernel_rfl) (trivial) (by decide) ?_)
    · simp only [List.mem_cons, List.not_mem_nil, or_false, forall_eq_or_imp, forall_eq]
      exact by rw [hL]; exact congrArg some (congrArg (fun f => lawFr (pb w.params b1 b2) f 13) hfe)
    intro h' H
    exact hQ _ _ 0 (H.kpM _ (fun b hb => by
        have : b ∈ [L] := hb
        simp only [List.mem_cons, List.not_mem_nil, or_false] at this
        rcases Or.inl (b := False) this with g0 | g1
        · exact .inr (by rw [g0]; exact ⟨_, (by rw [hL]; exact congrArg some (congrArg (fun f => lawFr (pb w.params b1 b2) f 13) hfe) : s.heap.get? L = some (lawFr (pb w.params b1 b2) { f with kind := .int 2 t } 13)), by simp⟩)
        · exact g1.elim))
theorem st_group3 (hh : A.handled = none) {L ca ck cm : Addr} {f : LF} {n : Nat} {t : Tok} {x : Int} {u : Tok} (hn : n = 9 ∨ n = 13) (hnd : [L, ca].Nodup) (hf_kind : f.kind = .int 3 t) (hL : s.heap.get? L = some (lawFr (pb w.params b1 b2) f n)) (ho0 : s.heap.get? ca = some (cellO (some (.int x u))))
    (hQ : ∀ h' tk (tt uu : Tok) n', (n' = 9 ∨ n' = 13) → Kp [L] s.heap h' → h'.get? L = some (lawFr (pb w.params b1 b2) { f with t9 := tt, group := .int (Int.fmod (Int.fdiv x 9) 10 - 3) uu } n') → Q .next { s with heap := h', toks := tk }) :
    wpAny (model prg (wb w b1 b2)) A (execs [stmtAt dB 6] (lawEnv L ca ck cm)) Q E s := by
  have hfe : f = { f with kind := .int 3 t } := by cases f; cases hf_kind; rfl
  rcases hn with rfl | rfl
  · refine wpAny_execs1 (any_fin hh [(L, lawFr (pb w.params b1 b2) { f with kind := .int 3 t } 9), (ca, cellO (some (.int x u)))] 34 [0, 1, 0, 0] (.done .next) [0, 1] [(L, lawFr (pb w.params b1 b2) { f with kind := .int 3 t, t9 := f.t9, group := .int (Int.fmod (Int.fdiv x 9) 10 - 3) (s.toks + 6) } 9), (ca, cellO (some (.int x u)))] 0 8 (((9 : Int) ≠ 0 ∧ Builtin.divisionGoesByPylong x 9 = false) ∧ True) ?_ hnd (fun _ _ _ _ _ => by clear hQ; cases b2 <;> kernel_rfl) (⟨⟨by decide, pyl _ _ (by decide)⟩, trivial⟩) (by decide) ?_)
    · simp only [List.mem_cons, List.not_mem_nil, or_false, forall_eq_or_imp, forall_eq]
      exact ⟨by rw [hL]; exact congrArg some (congrArg (fun f => lawFr (pb w.params b1 b2) f 9) hfe), ho0⟩
    intro h' H
    exact hQ _ _ f.t9 (s.toks + 6) _ (.inl rfl) (H.kpM _ (fun b hb => by
        have : b ∈ [L, ca] := hb
        simp only [List.mem_cons, List.not_mem_nil, or_false] at this
        rcases this with g0 | g1
        · exact .inl (by rw [g0]; simp)
        · exact .inr (by rw [g1]; exact ⟨_, ho0, by simp⟩))) ((H.at 0 rfl).trans (congrArg some (congrArg (fun z => lawFr (pb w.params b1 b2) z 9) (by cases f; cases hf_kind; rfl))))
  · refine wpAny_execs1 (any_fin hh [(L, lawFr (pb w.params b1 b2) { f with kind := .int 3 t } 13), (ca, cellO (some (.int x u)))] 34 [0, 1, 0, 0] (.done .next) [0, 1] [(L, lawFr (pb w.params b1 b2) { f with kind := .int 3 t, t9 := f.t9, group := .int (Int.fmod (Int.fdiv x 9) 10 - 3) (s.toks + 6) } 13), (ca, cellO (some (.int x u)))] 0 8 (((9 : Int) ≠ 0 ∧ Builtin.divisionGoesByPylong x 9 = false) ∧ True) ?_ hnd (fun _ _ _ _ _ => by clear hQ; cases b2 <;> kernel_rfl) (⟨⟨by decide, pyl _ _ (by decide)⟩, trivial⟩) (by decide) ?_)
    · simp only [List.mem_cons, List.not_mem_nil, or_false, forall_eq_or_imp, forall_eq]
      exact ⟨by rw [hL]; exact congrArg some (congrArg (fun f => lawFr (pb w.params b1 b2) f 13) hfe), ho0⟩
    intro h' H
    exact hQ _ _ f.t9 (s.toks + 6) _ (.inr rfl) (H.kpM _ (fun b hb => by
        have : b ∈ [L, ca] := hb
        simp only [List.mem_cons, List.not_mem_nil, or_false] at this
        rcases this with g0 | g1
        · exact .inl (by rw [g0]; simp)
        · exact .inr (by rw [g1]; exact ⟨_, ho0, by simp⟩))) ((H.at 0 rfl).trans (congrArg some (congrArg (fun z => lawFr (pb w.params b1 b2) z 13) (by cases f; cases hf_kind; rfl))))
theorem st_before (hh : A.handled = none) {L ca ck cm : Addr} {f : LF} {n : Nat} {b : Array UInt8} {t : Tok} (hn : n = 9 ∨ n = 13) (hf_data : f.data = .bytes b t) (hL : s.heap.get? L = some (lawFr (pb w.params b1 b2) f n)) 
    (hQ : ∀ h' tk (tt uu : Tok) n', (n' = 10 ∨ n' = 13) → Kp [L] s.heap h' → h'.get? L = some (lawFr (pb w.params b1 b2) { f with t10 := tt, before := .bytes b t } n') → Q .next { s with heap := h', toks := tk }) :
    wpAny (model prg (wb w b1 b2)) A (execs [stmtAt dB 7] (lawEnv L ca ck cm)) Q E s := by
  have hfe : f = { f with data := .bytes b t } := by cases f; cases hf_data; rfl
  rcases hn with rfl | rfl
  · refine wpAny_execs1 (any_fin hh [(L, lawFr (pb w.params b1 b2) { f with data := .bytes b t } 9)] 10 [0, 0, 0] (.done .next) [0] [(L, lawFr (pb w.params b1 b2) { f with data := .bytes b t, t10 := (s.toks + 0), before := .bytes b t } 10)] 0 1 (True) ?_ (by simp) (fun _ _ _ _ _ => by clear hQ; kernel_rfl) (trivial) (by decide) ?_)
    · simp only [List.mem_cons, List.not_mem_nil, or_false, forall_eq_or_imp, forall_eq]
      exact by rw [hL]; exact congrArg some (congrArg (fun f => lawFr (pb w.params b1 b2) f 9) hfe)
    intro h' H
    exact hQ _ _ (s.toks + 0) 0 _ (.inl rfl) (H.kpM _ (fun b hb => by
        have : b ∈ [L] := hb
        simp only [List.mem_cons, List.not_mem_nil, or_false] at this
        rcases Or.inl (b := False) this with g0 | g1
        · exact .inl (by rw [g0]; simp)
        · exact g1.elim)) ((H.at 0 rfl).trans (congrArg some (congrArg (fun z => lawFr (pb w.params b1 b2) z 10) (by cases f; cases hf_data; rfl))))
  · refine wpAny_execs1 (any_fin hh [(L, lawFr (pb w.params b1 b2) { f with data := .bytes b t } 13)] 10 [0, 0, 0] (.done .next) [0] [(L, lawFr (pb w.params b1 b2) { f with data := .bytes b t, t10 := f.t10, before := .bytes b t } 13)] 0 1 (True) ?_ (by simp) (fun _ _ _ _ _ => by clear hQ; kernel_rfl) (trivial) (by decide) ?_)
    · simp only [List.mem_cons, List.not_mem_nil, or_false, forall_eq_or_imp, forall_eq]
      exact by rw [hL]; exact congrArg some (congrArg (fun f => lawFr (pb w.params b1 b2) f 13) hfe)
    intro h' H
    exact hQ _ _ f.t10 0 _ (.inr rfl) (H.kpM _ (fun b hb => by
        have : b ∈ [L] := hb
        simp only [List.mem_cons, List.not_mem_nil, or_false] at this
        rcases Or.inl (b := False) this with g0 | g1
        · exact .inl (by rw [g0]; simp)
        · exact g1.elim)) ((H.at 0 rfl).trans (congrArg some (congrArg (fun z => lawFr (pb w.params b1 b2) z 13) (by cases f; cases hf_data; rfl))))
theorem st_refused (hh : A.handled = none) {L ca ck cm : Addr} {f : LF} {n : Nat}  (hn : n = 11 ∨ n = 13)  (hL : s.heap.get? L = some (lawFr (pb w.params b1 b2) f n)) 
    (hQ : ∀ h' tk (tt uu : Tok) n', (n' = 12 ∨ n' = 13) → Kp [L] s.heap h' → h'.get? L = some (lawFr (pb w.params b1 b2) { f with t12 := tt, refused := .bool false } n') → Q .next { s with heap := h', toks := tk }) :
    wpAny (model prg (wb w b1 b2)) A (execs [stmtAt dB 9] (lawEnv L ca ck cm)) Q E s := by
  rcases hn with rfl | rfl
  · refine wpAny_execs1 (any_fin hh [(L, lawFr (pb w.params b1 b2) f 11)] 8 [0, 0] (.done .next) [0] [(L, lawFr (pb w.params b1 b2) { f with t12 := (s.toks + 0), refused := .bool false } 12)] 0 1 (True) ?_ (by simp) (fun _ _ _ _ _ => by clear hQ; kernel_rfl) (trivial) (by decide) ?_)
    · simp only [List.mem_cons, List.not_mem_nil, or_false, forall_eq_or_imp, forall_eq]
      exact hL
    intro h' H
    exact hQ _ _ (s.toks + 0) 0 _ (.inl rfl) (H.kpM _ (fun b hb => by
        have : b ∈ [L] := hb
        simp only [List.mem_cons, List.not_mem_nil, or_false] at this
        rcases Or.inl (b := False) this with g0 | g1
        · exact .inl (by rw [g0]; simp)
        · exact g1.elim)) ((H.at 0 rfl).trans (congrArg some (congrArg (fun z => lawFr (pb w.params b1 b2) z 12) (by cases f; rfl))))
  · refine wpAny_execs1 (any_fin hh [(L, lawFr (pb w.params b1 b2) f 13)] 8 [0, 0] (.done .next) [0] [(L, lawFr (pb w.params b1 b2) { f with t12 := f.t12, refused := .bool false } 13)] 0 1 (True) ?_ (by simp) (fun _ _ _ _ _ => by clear hQ; kernel_rfl) (trivial) (by decide) ?_)
    · simp only [List.mem_cons, List.not_mem_nil, or_false, forall_eq_or_imp, forall_eq]
      exact hL
    intro h' H
    exact hQ _ _ f.t12 0 _ (.inr rfl) (H.kpM _ (fun b hb => by
        have : b ∈ [L] := hb
        simp only [List.mem_cons, List.not_mem_nil, or_false] at this
        rcases Or.inl (b := False) this with g0 | g1
        · exact .inl (by rw [g0]; simp)
        · exact g1.elim)) ((H.at 0 rfl).trans (congrArg some (congrArg (fun z => lawFr (pb w.params b1 b2) z 13) (by cases f; rfl))))
end
end Mine
end

section
open PySem PySem.W PySem.W.X PySem.Builtin PyProof.Rows
set_option maxRecDepth 100000
set_option linter.unusedVariables false
set_option linter.unusedSimpArgs false
namespace Mine
theorem ne_lo {L : Addr} (h : 524 ≤ L) (k : Nat) (hk : k < 524 := by decide) : L ≠ k := Nat.ne_of_gt (Nat.lt_of_lt_of_le hk h)
section
variable {w : World} {b1 b2 : Bool} {A : Around} {s : Shared} {Q : Flow → Shared → Prop} {E : Value → Shared → Prop}
theorem st_handed (hh : A.handled = none) {L ca ck cm : Addr} {f : LF} {n : Nat} {b : Array UInt8} {t : Tok} (hn : n = 10 ∨ n = 13) (hlo : 524 ≤ L) (F : Fix (pb w.params b1 b2) s.heap) (hb : b.size ≤ sizeLine) (hf_data : f.data = .bytes b t) (hL : s.heap.get? L = some (lawFr (pb w.params b1 b2) f n))
    (hQ : ∀ h' tk (tt : Tok) n', (n' = 11 ∨ n' = 13) → Kp [L] s.heap h' → h'.get? L = some (lawFr (pb w.params b1 b2) { f with t11 := tt, handed := .ref s.heap.objs.size } n') → h'.get? s.heap.objs.size = some (BA.baO b) → Q .next { s with heap := h', toks := tk }) :
    wpF (model prg (wb w b1 b2)) A (execs [stmtAt dB 8] (lawEnv L ca ck cm)) Q E s := by
  have hfe : f = { f with data := .bytes b t } := by cases f; cases hf_data; rfl
  have hnd : [L, 3, 0].Nodup := nd3 (ne_lo hlo 3) (ne_lo hlo 0) (by decide)
  rcases hn with rfl | rfl
  · refine wpF_execs1 (f_fin hh [(L, lawFr (pb w.params b1 b2) { f with data := .bytes b t } 10), (3, ob3 (pb w.params b1 b2)), (0, ob0 (pb w.params b1 b2))] 26 [1, 2, 0, 0, 0, 0, 1, 1] (.done .next) [1, 2, 3, 0] [(L, lawFr (pb w.params b1 b2) { f with data := .bytes b t, t11 := s.toks + 0, handed := .ref s.heap.objs.size } 11), (3, ob3 (pb w.params b1 b2)), (0, ob0 (pb w.params b1 b2)), (s.heap.objs.size, BA.baO b)] 1 1
      (fun Γ => (Value.type "bytearray" = .type "bytearray" ∧ (none : Option Addr) = none ∧ 0 = 0 ∧ (#[] : Array (Option Value)) = #[] ∧ b.size ≤ sizeLine ∧ FreeC Γ) ∧ True) ?_ hnd (fun _ _ _ _ _ => by clear hQ; kernel_rfl) (fun Γ hF => ⟨⟨rfl, rfl, rfl, rfl, hb, hF⟩, trivial⟩) (by decide) ?_)
    · simp only [List.mem_cons, List.not_mem_nil, or_false, forall_eq_or_imp, forall_eq]
      exact ⟨by rw [hL]; exact congrArg some (congrArg (fun f => lawFr (pb w.params b1 b2) f 10) hfe), F.get 2, F.get 0⟩
    · intro h' H
      exact hQ _ _ (s.toks + 0) _ (.inl rfl) (H.kpM _ fun c hc => by
        have : c ∈ [L, 3, 0] := hc
        simp only [List.mem_cons, List.not_mem_nil, or_false] at this
        rcases this with g | g | g
        · exact .inl (by rw [g]; simp)
        · exact .inr (by rw [g]; exact ⟨_, F.get 2, by simp⟩)
        · exact .inr (by rw [g]; exact ⟨_, F.get 0, by simp⟩)) ((H.at 0 rfl).trans (congrArg some (congrArg (fun z => lawFr (pb w.params b1 b2) z 11) (by cases f; cases hf_data; rfl)))) (H.at 3 rfl)
  · refine wpF_execs1 (f_fin hh [(L, lawFr (pb w.params b1 b2) { f with data := .bytes b t } 13), (3, ob3 (pb w.params b1 b2)), (0, ob0 (pb w.params b1 b2))] 26 [1, 2, 0, 0, 0, 0, 1, 1] (.done .next) [1, 2, 3, 0] [(L, lawFr (pb w.params b1 b2) { f with data := .bytes b t, handed := .ref s.heap.objs.size } 13), (3, ob3 (pb w.params b1 b2)), (0, ob0 (pb w.params b1 b2)), (s.heap.objs.size, BA.baO b)] 1 1
      (fun Γ => (Value.type "bytearray" = .type "bytearray" ∧ (none : Option Addr) = none ∧ 0 = 0 ∧ (#[] : Array (Option Value)) = #[] ∧ b.size ≤ sizeLine ∧ FreeC Γ) ∧ True) ?_ hnd (fun _ _ _ _ _ => by clear hQ; kernel_rfl) (fun Γ hF => ⟨⟨rfl, rfl, rfl, rfl, hb, hF⟩, trivial⟩) (by decide) ?_)
    · simp only [List.mem_cons, List.not_mem_nil, or_false, forall_eq_or_imp, forall_eq]
      exact ⟨by rw [hL]; exact congrArg some (congrArg (fun f => lawFr (pb w.params b1 b2) f 13) hfe), F.get 2, F.get 0⟩
    · intro h' H
      exact hQ _ _ f.t11 _ (.inr rfl) (H.kpM _ fun c hc => by
        have : c ∈ [L, 3, 0] := hc
        simp only [List.mem_cons, List.not_mem_nil, or_false] at this
        rcases this with g | g | g
        · exact .inl (by rw [g]; simp)
        · exact .inr (by rw [g]; exact ⟨_, F.get 2, by simp⟩)
        · exact .inr (by rw [g]; exact ⟨_, F.get 0, by simp⟩)) ((H.at 0 rfl).trans (congrArg some (congrArg (fun z => lawFr (pb w.params b1 b2) z 13) (by cases f; cases hf_data; rfl)))) (H.at 3 rfl)
end
end Mine
end

section
open PySem PySem.W PySem.W.X PySem.Builtin PyProof.Rows
set_option maxRecDepth 100000
set_option linter.unusedVariables false
set_option linter.unusedSimpArgs false
namespace Mine
theorem ov_mod {prog : Program} {w : World} {A : Around} {R : Result → Shared → Prop} {s : Shared} {x y : Int} {t u : Tok} (hy : y ≠ 0) (h : R (.ok (.ret (.int (x.fmod y) s.toks))) { s with toks := s.toks + 1 }) :
    codeAny (model prog w) A (.call (.builtin "int.__mod__") ⟨[.int x t, .int y u], []⟩) R s :=
  gives_code F.slot_int_mod (typeIs_int s _ _) F.entry_int_mod (F.args_int_mod_2 _ _) (AutoIntG6.int___mod___int_int_1 _ _ _ _ (by simpa using hy)) h
/-- octet k of a deed's key -/
def keyV (x : Int) (k : Int) : Int := Int.fmod (x + 59 * k * k) 256
def keyL (x : Int) : List Int := (List.range (Int.fmod x 5 + 1).toNat).map fun (k : Nat) => keyV x k
theorem fmod5 (x : Int) : Int.fmod x 5 = 0 ∨ Int.fmod x 5 = 1 ∨ Int.fmod x 5 = 2 ∨ Int.fmod x 5 = 3 ∨ Int.fmod x 5 = 4 := by
  rw [Int.fmod_eq_emod_of_nonneg _ (by decide)]; omega
/-- a list of one to five integers -/
def KeyIs (h : Heap) (a : Addr) (ks : List Int) : Prop := ∃ vs n, h.get? a = some (lstO vs n) ∧ IntsAre vs.toList ks
section
variable {w : World} {b1 b2 : Bool} {A : Around} {s : Shared} {Q : Flow → Shared → Prop} {E : Value → Shared → Prop}
theorem st_key (hh : A.handled = none) {L ca ck cm : Addr} {x : Int} {t : Tok} {v : Option Value} (hlo : 524 ≤ ca ∧ 524 ≤ ck) (hne : ca ≠ ck) (F : Fix (pb w.params b1 b2) s.heap) (ha : s.heap.get? ca = some (cellO (some (.int x t)))) (hc : s.heap.get? ck = some (cellO v))
    (hQ : ∀ h' tk K, Kp [ck] s.heap h' → h'.get? ck = some (cellO (some (.ref K))) → s.heap.get? K = none → 524 ≤ K → KeyIs h' K (keyL x) → Q .next { s with heap := h', toks := tk }) :
    wpAny (model prg (wb w b1 b2)) A (execs [stmtAt dB 2] (lawEnv L ca ck cm)) Q E s := by
  have hnd : [ca, ck, 3, 0].Nodup := by
    have h1 := ne_lo hlo.1 3; have h2 := ne_lo hlo.1 0; have h3 := ne_lo hlo.2 3; have h4 := ne_lo hlo.2 0
    simp [hne, h1, h2, h3, h4]
  refine wpAny_execs1 (enter_any hh fun c own below past p hIn => ?_)
  refine go_call hIn [(ca, cellO (some (.int x t))), (ck, cellO v), (3, ob3 (pb w.params b1 b2)), (0, ob0 (pb w.params b1 b2))] 8 [2,3,0] (.call (.builtin "int.__mod__") ⟨[.int x t, .int 5 s.toks], []⟩) [0, 1, 2, 3] [(ca, cellO (some (.int x t))), (ck, cellO v), (3, ob3 (pb w.params b1 b2)), (0, ob0 (pb w.params b1 b2))] 0 1 True ?_ hnd (by clear hQ; cases b1 <;> cases b2 <;> kernel_rfl) trivial (by decide) ?_
  · simp only [List.mem_cons, List.not_mem_nil, or_false, forall_eq_or_imp, forall_eq]
    exact ⟨ha, hc, F.get 2, F.get 0⟩
  intro h1 H1 A' _ hh'
  refine ov_mod (by decide) ?_
  have K1 : Kp [] s.heap h1 := H1.kpM _ fun b hb => by
    have : b ∈ [ca, ck, 3, 0] := hb
    simp only [List.mem_cons, List.not_mem_nil, or_false] at this
    rcases this with g | g | g | g
    · exact .inr (by rw [g]; exact ⟨_, ha, by simp⟩)
    · exact .inr (by rw [g]; exact ⟨_, hc, by simp⟩)
    · exact .inr (by rw [g]; exact ⟨_, F.get 2, by simp⟩)
    · exact .inr (by rw [g]; exact ⟨_, F.get 0, by simp⟩)
  have hsz : h1.objs.size = s.heap.objs.size := H1.size
  have hfr : s.heap.get? (h1.objs.size + 2) = none := none_of_ge (by rw [hsz]; omega)
  have hK5 : 524 ≤ h1.objs.size + 2 := by rw [hsz]; exact Nat.le_trans hlo.1 (Nat.le_trans (Nat.le_of_lt (Heap.lt_size ha)) (Nat.le_add_right _ _))
  have fin : ∀ (ks : List Int) (vs : Array Value) (h2 : Heap) (tk : Nat) (nn : Nat), keyL x = ks → IntsAre vs.toList ks → HS h1 h2 [ca, ck, 3, 0] [(ca, cellO (some (.int x t))), (ck, cellO (some (.ref (h1.objs.size + 2)))), (3, ob3 (pb w.params b1 b2)), (0, ob0 (pb w.params b1 b2)), (h1.objs.size + 2, lstO vs nn)] 6 →
      Q .next { s with heap := h2, toks := tk } := fun ks vs h2 tk nn hk hv H => by
    refine hQ h2 tk _ ?_ (H.at 1 rfl) hfr hK5 ⟨vs, nn, H.at 4 rfl, hk ▸ hv⟩
    refine (K1.mono (M' := [ck]) (fun _ h => by cases h)).trans (H.kpM _ fun b hb => ?_)
    have : b ∈ [ca, ck, 3, 0] := hb
    simp only [List.mem_cons, List.not_mem_nil, or_false] at this
    rcases this with g | g | g | g
    · exact .inr (by rw [g]; exact ⟨_, H1.at 0 rfl, by simp⟩)
    · exact .inl (by rw [g]; simp)
    · exact .inr (by rw [g]; exact ⟨_, H1.at 2 rfl, by simp⟩)
    · exact .inr (by rw [g]; exact ⟨_, H1.at 3 rfl, by simp⟩)
  rcases fmod5 x with e | e | e | e | e
  · rw [e]
    refine go_fin [(ca, cellO (some (.int x t))), (ck, cellO v), (3, ob3 (pb w.params b1 b2)), (0, ob0 (pb w.params b1 b2))] (cond b1 113 123) (cond b1 [0,0,0,0,0,0,0,0,0,0,0,2,2,2,2,2,2,2,2,2,0,0,4,0,0,1,2,2,2,2,2,0,2,2,2,7,7] [0,0,0,0,0,0,0,0,0,0,0,2,2,2,2,2,2,2,2,2,2,2,2,2,0,0,4,0,0,1,2,2,2,2,2,0,2,2,2,7,7]) (.pure (.done .next)) [6, 7, 8, 9, 3] [(ca, cellO (some (.int x t))), (ck, cellO (some (.ref (h1.objs.size + 2)))), (3, ob3 (pb w.params b1 b2)), (0, ob0 (pb w.params b1 b2)), (h1.objs.size + 2, lstO #[.int (keyV x 0) (s.toks + 1 + 1 + 11)] 1)] 6 12 ((Value.type "list" = .type "list" ∧ 0 ≤ sizeLine) ∧ IntMulOk (59 * 0) 0 ∧ IntMulOk 59 0 ∧ True) ?_ hnd (by clear hQ fin; cases b1 <;> cases b2 <;> kernel_rfl) ⟨⟨rfl, by decide +kernel⟩, .of_left (by decide), .of_left (by decide), trivial⟩ (by decide) ?_
    · simp only [List.mem_cons, List.not_mem_nil, or_false, forall_eq_or_imp, forall_eq]
      exact ⟨H1.at 0 rfl, H1.at 1 rfl, H1.at 2 rfl, H1.at 3 rfl⟩
    · intro h2 p' H
      exact base_done' (fin [keyV x 0] _ h2 _ _ (by simp only [keyL, e]; rfl) (by repeat constructor) H)
  · rw [e]
    refine go_fin [(ca, cellO (some (.int x t))), (ck, cellO v), (3, ob3 (pb w.params b1 b2)), (0, ob0 (pb w.params b1 b2))] (cond b1 158 168) (cond b1 [0,0,0,0,0,0,0,0,0,0,0,2,2,2,2,2,2,2,2,2,0,0,4,0,0,1,2,2,2,2,2,2,2,2,2,0,0,4,0,0,1,2,2,2,2,2,0,2,2,2,7,7] [0,0,0,0,0,0,0,0,0,0,0,2,2,2,2,2,2,2,2,2,2,2,2,2,0,0,4,0,0,1,2,2,2,2,2,2,2,2,2,0,0,4,0,0,1,2,2,2,2,2,0,2,2,2,7,7]) (.pure (.done .next)) [6, 7, 8, 9, 3] [(ca, cellO (some (.int x t))), (ck, cellO (some (.ref (h1.objs.size + 2)))), (3, ob3 (pb w.params b1 b2)), (0, ob0 (pb w.params b1 b2)), (h1.objs.size + 2, lstO #[.int (keyV x 0) (s.toks + 1 + 1 + 11), .int (keyV x 1) (s.toks + 1 + 1 + 19)] 2)] 6 20 ((Value.type "list" = .type "list" ∧ 1 ≤ sizeLine) ∧ IntMulOk (59 * 1) 1 ∧ IntMulOk 59 1 ∧ (Value.type "list" = .type "list" ∧ 0 ≤ sizeLine) ∧ IntMulOk (59 * 0) 0 ∧ IntMulOk 59 0 ∧ True) ?_ hnd (by clear hQ fin; cases b1 <;> cases b2 <;> kernel_rfl) ⟨⟨rfl, by decide +kernel⟩, .of_left (by decide), .of_left (by decide), ⟨⟨rfl, by decide +kernel⟩, .of_left (by decide), .of_left (by decide), trivial⟩⟩ (by decide) ?_
    · simp only [List.mem_cons, List.not_mem_nil, or_false, forall_eq_or_imp, forall_eq]
      exact ⟨H1.at 0 rfl, H1.at 1 rfl, H1.at 2 rfl, H1.at 3 rfl⟩
    · intro h2 p' H
      exact base_done' (fin [keyV x 0, keyV x 1] _ h2 _ _ (by simp only [keyL, e]; rfl) (by repeat constructor) H)
  · rw [e]
    refine go_fin [(ca, cellO (some (.int x t))), (ck, cellO v), (3, ob3 (pb w.params b1 b2)), (0, ob0 (pb w.params b1 b2))] (cond b1 203 213) (cond b1 [0,0,0,0,0,0,0,0,0,0,0,2,2,2,2,2,2,2,2,2,0,0,4,0,0,1,2,2,2,2,2,2,2,2,2,0,0,4,0,0,1,2,2,2,2,2,2,2,2,2,0,0,4,0,0,1,2,2,2,2,2,0,2,2,2,7,7] [0,0,0,0,0,0,0,0,0,0,0,2,2,2,2,2,2,2,2,2,2,2,2,2,0,0,4,0,0,1,2,2,2,2,2,2,2,2,2,0,0,4,0,0,1,2,2,2,2,2,2,2,2,2,0,0,4,0,0,1,2,2,2,2,2,0,2,2,2,7,7]) (.pure (.done .next)) [6, 7, 8, 9, 3] [(ca, cellO (some (.int x t))), (ck, cellO (some (.ref (h1.objs.size + 2)))), (3, ob3 (pb w.params b1 b2)), (0, ob0 (pb w.params b1 b2)), (h1.objs.size + 2, lstO #[.int (keyV x 0) (s.toks + 1 + 1 + 11), .int (keyV x 1) (s.toks + 1 + 1 + 19), .int (keyV x 2) (s.toks + 1 + 1 + 27)] 3)] 6 28 ((Value.type "list" = .type "list" ∧ 2 ≤ sizeLine) ∧ IntMulOk (59 * 2) 2 ∧ IntMulOk 59 2 ∧ (Value.type "list" = .type "list" ∧ 1 ≤ sizeLine) ∧ IntMulOk (59 * 1) 1 ∧ IntMulOk 59 1 ∧ (Value.type "list" = .type "list" ∧ 0 ≤ sizeLine) ∧ IntMulOk (59 * 0) 0 ∧ IntMulOk 59 0 ∧ True) ?_ hnd (by clear hQ fin; cases b1 <;> cases b2 <;> kernel_rfl) ⟨⟨rfl, by decide +kernel⟩, .of_left (by decide), .of_left (by decide), ⟨⟨rfl, by decide +kernel⟩, .of_left (by decide), .of_left (by decide), ⟨⟨rfl, by decide +kernel⟩, .of_left (by decide), .of_left (by decide), trivial⟩⟩⟩ (by decide) ?_
    · simp only [List.mem_cons, List.not_mem_nil, or_false, forall_eq_or_imp, forall_eq]
      exact ⟨H1.at 0 rfl, H1.at 1 rfl, H1.at 2 rfl, H1.at 3 rfl⟩
    · intro h2 p' H
      exact base_done' (fin [keyV x 0, keyV x 1, keyV x 2] _ h2 _ _ (by simp only [keyL, e]; rfl) (by repeat constructor) H)
  · rw [e]
    refine go_fin [(ca, cellO (some (.int x t))), (ck, cellO v), (3, ob3 (pb w.params b1 b2)), (0, ob0 (pb w.params b1 b2))] (cond b1 248 258) (cond b1 [0,0,0,0,0,0,0,0,0,0,0,2,2,2,2,2,2,2,2,2,0,0,4,0,0,1,2,2,2,2,2,2,2,2,2,0,0,4,0,0,1,2,2,2,2,2,2,2,2,2,0,0,4,0,0,1,2,2,2,2,2,2,2,2,2,0,0,4,0,0,1,2,2,2,2,2,0,2,2,2,7,7] [0,0,0,0,0,0,0,0,0,0,0,2,2,2,2,2,2,2,2,2,2,2,2,2,0,0,4,0,0,1,2,2,2,2,2,2,2,2,2,0,0,4,0,0,1,2,2,2,2,2,2,2,2,2,0,0,4,0,0,1,2,2,2,2,2,2,2,2,2,0,0,4,0,0,1,2,2,2,2,2,0,2,2,2,7,7]) (.pure (.done .next)) [6, 7, 8, 9, 3] [(ca, cellO (some (.int x t))), (ck, cellO (some (.ref (h1.objs.size + 2)))), (3, ob3 (pb w.params b1 b2)), (0, ob0 (pb w.params b1 b2)), (h1.objs.size + 2, lstO #[.int (keyV x 0) (s.toks + 1 + 1 + 11), .int (keyV x 1) (s.toks + 1 + 1 + 19), .int (keyV x 2) (s.toks + 1 + 1 + 27), .int (keyV x 3) (s.toks + 1 + 1 + 35)] 4)] 6 36 ((Value.type "list" = .type "list" ∧ 3 ≤ sizeLine) ∧ IntMulOk (59 * 3) 3 ∧ IntMulOk 59 3 ∧ (Value.type "list" = .type "list" ∧ 2 ≤ sizeLine) ∧ IntMulOk (59 * 2) 2 ∧ IntMulOk 59 2 ∧ (Value.type "list" = .type "list" ∧ 1 ≤ sizeLine) ∧ IntMulOk (59 * 1) 1 ∧ IntMulOk 59 1 ∧ (Value.type "list" = .type "list" ∧ 0 ≤ sizeLine) ∧ IntMulOk (59 * 0) 0 ∧ IntMulOk 59 0 ∧ True) ?_ hnd (by clear hQ fin; cases b1 <;> cases b2 <;> kernel_rfl) ⟨⟨rfl, by decide +kernel⟩, .of_left (by decide), .of_left (by decide), ⟨⟨rfl, by decide +kernel⟩, .of_left (by decide), .of_left (by decide), ⟨⟨rfl, by decide +kernel⟩, .of_left (by decide), .of_left (by decide), ⟨⟨rfl, by decide +kernel⟩, .of_left (by decide), .of_left (by decide), trivial⟩⟩⟩⟩ (by decide) ?_
    · simp only [List.mem_cons, List.not_mem_nil, or_false, forall_eq_or_imp, forall_eq]
      exact ⟨H1.at 0 rfl, H1.at 1 rfl, H1.at 2 rfl, H1.at 3 rfl⟩
    · intro h2 p' H
      exact base_done' (fin [keyV x 0, keyV x 1, keyV x 2, keyV x 3] _ h2 _ _ (by simp only [keyL, e]; rfl) (by repeat constructor) H)
  · rw [e]
    refine go_fin [(ca, cellO (some (.int x t))), (ck, cellO v), (3, ob3 (pb w.params b1 b2)), (0, ob0 (pb w.params b1 b2))] (cond b1 293 303) (cond b1 [0,0,0,0,0,0,0,0,0,0,0,2,2,2,2,2,2,2,2,2,0,0,4,0,0,1,2,2,2,2,2,2,2,2,2,0,0,4,0,0,1,2,2,2,2,2,2,2,2,2,0,0,4,0,0,1,2,2,2,2,2,2,2,2,2,0,0,4,0,0,1,2,2,2,2,2,2,2,2,2,0,0,4,0,0,1,2,2,2,2,2,0,2,2,2,7,7] [0,0,0,0,0,0,0,0,0,0,0,2,2,2,2,2,2,2,2,2,2,2,2,2,0,0,4,0,0,1,2,2,2,2,2,2,2,2,2,0,0,4,0,0,1,2,2,2,2,2,2,2,2,2,0,0,4,0,0,1,2,2,2,2,2,2,2,2,2,0,0,4,0,0,1,2,2,2,2,2,2,2,2,2,0,0,4,0,0,1,2,2,2,2,2,0,2,2,2,7,7]) (.pure (.done .next)) [6, 7, 8, 9, 3] [(ca, cellO (some (.int x t))), (ck, cellO (some (.ref (h1.objs.size + 2)))), (3, ob3 (pb w.params b1 b2)), (0, ob0 (pb w.params b1 b2)), (h1.objs.size + 2, lstO #[.int (keyV x 0) (s.toks + 1 + 1 + 11), .int (keyV x 1) (s.toks + 1 + 1 + 19), .int (keyV x 2) (s.toks + 1 + 1 + 27), .int (keyV x 3) (s.toks + 1 + 1 + 35), .int (keyV x 4) (s.toks + 1 + 1 + 43)] 5)] 6 44 ((Value.type "list" = .type "list" ∧ 4 ≤ sizeLine) ∧ IntMulOk (59 * 4) 4 ∧ IntMulOk 59 4 ∧ (Value.type "list" = .type "list" ∧ 3 ≤ sizeLine) ∧ IntMulOk (59 * 3) 3 ∧ IntMulOk 59 3 ∧ (Value.type "list" = .type "list" ∧ 2 ≤ sizeLine) ∧ IntMulOk (59 * 2) 2 ∧ IntMulOk 59 2 ∧ (Value.type "list" = .type "list" ∧ 1 ≤ sizeLine) ∧ IntMulOk (59 * 1) 1 ∧ IntMulOk 59 1 ∧ (Value.type "list" = .type "list" ∧ 0 ≤ sizeLine) ∧ IntMulOk (59 * 0) 0 ∧ IntMulOk 59 0 ∧ True) ?_ hnd (by clear hQ fin; cases b1 <;> cases b2 <;> kernel_rfl) ⟨⟨rfl, by decide +kernel⟩, .of_left (by decide), .of_left (by decide), ⟨⟨rfl, by decide +kernel⟩, .of_left (by decide), .of_left (by decide), ⟨⟨rfl, by decide +kernel⟩, .of_left (by decide), .of_left (by decide), ⟨⟨rfl, by decide +kernel⟩, .of_left (by decide), .of_left (by decide), ⟨⟨rfl, by decide +kernel⟩, .of_left (by decide), .of_left (by decide), trivial⟩⟩⟩⟩⟩ (by decide) ?_
    · simp only [List.mem_cons, List.not_mem_nil, or_false, forall_eq_or_imp, forall_eq]
      exact ⟨H1.at 0 rfl, H1.at 1 rfl, H1.at 2 rfl, H1.at 3 rfl⟩
    · intro h2 p' H
      exact base_done' (fin [keyV x 0, keyV x 1, keyV x 2, keyV x 3, keyV x 4] _ h2 _ _ (by simp only [keyL, e]; rfl) (by repeat constructor) H)
end
end Mine
end

section
open PySem PySem.W PySem.W.X PySem.Builtin PyProof.Rows
set_option maxRecDepth 100000
set_option linter.unusedVariables false
set_option linter.unusedSimpArgs false
namespace Mine
section
variable {w : World} {b1 b2 : Bool} {A : Around} {s : Shared} {Q : Flow → Shared → Prop} {E : Value → Shared → Prop}

theorem st_cut_1 (hh : A.handled = none) {L ca ck cm : Addr} {f : LF} {n : Nat} {t : Tok} (hn : n = 9 ∨ n = 13) (hf_kind : f.kind = .int 1 t) (hL : s.heap.get? L = some (lawFr (pb w.params b1 b2) f n)) 
    (hQ : ∀ h' tk (uu : Tok), Kp [] s.heap h' → Q .next { s with heap := h', toks := tk }) :
    wpAny (model prg (wb w b1 b2)) A (execs [stmtAt dB 5] (lawEnv L ca ck cm)) Q E s := by
  have hfe : f = { f with kind := .int 1 t } := by cases f; cases hf_kind; rfl
  rcases hn with rfl | rfl
  · refine wpAny_execs1 (any_fin hh [(L, lawFr (pb w.params b1 b2) { f with kind := .int 1 t } 9)] 9 [0] (.done .next) [0] [(L, lawFr (pb w.params b1 b2) { f with kind := .int 1 t } 9)] 0 1 (True) ?_ (by simp) (fun _ _ _ _ _ => by clear hQ; cases b2 <;> kernel_rfl) (trivial) (by decide) ?_)
    · simp only [List.mem_cons, List.not_mem_nil, or_false, forall_eq_or_imp, forall_eq]
      exact by rw [hL]; exact congrArg some (congrArg (fun f => lawFr (pb w.params b1 b2) f 9) hfe)
    intro h' H
    exact hQ _ _ 0 (H.kpM _ (fun b hb => by
        have : b ∈ [L] := hb
        simp only [List.mem_cons, List.not_mem_nil, or_false] at this
        rcases Or.inl (b := False) this with g0 | g1
        · exact .inr (by rw [g0]; exact ⟨_, (by rw [hL]; exact congrArg some (congrArg (fun f => lawFr (pb w.params b1 b2) f 9) hfe) : s.heap.get? L = some (lawFr (pb w.params b1 b2) { f with kind := .int 1 t } 9)), by simp⟩)
        · exact g1.elim))
  · refine wpAny_execs1 (any_fin hh [(L, lawFr (pb w.params b1 b2) { f with kind := .int 1 t } 13)] 9 [0] (.done .next) [0] [(L, lawFr (pb w.params b1 b2) { f with kind := .int 1 t } 13)] 0 1 (True) ?_ (by simp) (fun _ _ _ _ _ => by clear hQ; cases b2 <;> kernel_rfl) (trivial) (by decide) ?_)
    · simp only [List.mem_cons, List.not_mem_nil, or_false, forall_eq_or_imp, forall_eq]
      exact by rw [hL]; exact congrArg some (congrArg (fun f => lawFr (pb w.params b1 b2) f 13) hfe)
    intro h' H
    exact hQ _ _ 0 (H.kpM _ (fun b hb => by
        have : b ∈ [L] := hb
        simp only [List.mem_cons, List.not_mem_nil, or_false] at this
        rcases Or.inl (b := False) this with g0 | g1
        · exact .inr (by rw [g0]; exact ⟨_, (by rw [hL]; exact congrArg some (congrArg (fun f => lawFr (pb w.params b1 b2) f 13) hfe) : s.heap.get? L = some (lawFr (pb w.params b1 b2) { f with kind := .int 1 t } 13)), by simp⟩)
        · exact g1.elim))
theorem st_cut_2 (hh : A.handled = none) {L ca ck cm : Addr} {f : LF} {n : Nat} {t : Tok} (hn : n = 9 ∨ n = 13) (hf_kind : f.kind = .int 2 t) (hL : s.heap.get? L = some (lawFr (pb w.params b1 b2) f n)) 
    (hQ : ∀ h' tk (uu : Tok), Kp [] s.heap h' → Q .next { s with heap := h', toks := tk }) :
    wpAny (model prg (wb w b1 b2)) A (execs [stmtAt dB 5] (lawEnv L ca ck cm)) Q E s := by
  have hfe : f = { f with kind := .int 2 t } := by cases f; cases hf_kind; rfl
  rcases hn with rfl | rfl
  · refine wpAny_execs1 (any_fin hh [(L, lawFr (pb w.params b1 b2) { f with kind := .int 2 t } 9)] 9 [0] (.done .next) [0] [(L, lawFr (pb w.params b1 b2) { f with kind := .int 2 t } 9)] 0 1 (True) ?_ (by simp) (fun _ _ _ _ _ => by clear hQ; cases b2 <;> kernel_rfl) (trivial) (by decide) ?_)
    · simp only [List.mem_cons, List.not_mem_nil, or_false, forall_eq_or_imp, forall_eq]
      exact by rw [hL]; exact congrArg some (congrArg (fun f => lawFr (pb w.params b1 b2) f 9) hfe)
    intro h' H
    exact hQ _ _ 0 (H.kpM _ (fun b hb => by
        have : b ∈ [L] := hb
        simp only [List.mem_cons, List.not_mem_nil, or_false] at this
        rcases Or.inl (b := False) this with g0 | g1
        · exact .inr (by rw [g0]; exact ⟨_, (by rw [hL]; exact congrArg some (congrArg (fun f => lawFr (pb w.params b1 b2) f 9) hfe) : s.heap.get? L = some (lawFr (pb w.params b1 b2) { f with kind := .int 2 t } 9)), by simp⟩)
        · exact g1.elim))
  · refine wpAny_execs1 (any_fin hh [(L, lawFr (pb w.params b1 b2) { f with kind := .int 2 t } 13)] 9 [0] (.done .next) [0] [(L, lawFr (pb w.params b1 b2) { f with kind := .int 2 t } 13)] 0 1 (True) ?_ (by simp) (fun _ _ _ _ _ => by clear hQ; cases b2 <;> kernel_rfl) (trivial) (by decide) ?_)
    · simp only [List.mem_cons, List.not_mem_nil, or_false, forall_eq_or_imp, forall_eq]
      exact by rw [hL]; exact congrArg some (congrArg (fun f => lawFr (pb w.params b1 b2) f 13) hfe)
    intro h' H
    exact hQ _ _ 0 (H.kpM _ (fun b hb => by
        have : b ∈ [L] := hb
        simp only [List.mem_cons, List.not_mem_nil, or_false] at this
        rcases Or.inl (b := False) this with g0 | g1
        · exact .inr (by rw [g0]; exact ⟨_, (by rw [hL]; exact congrArg some (congrArg (fun f => lawFr (pb w.params b1 b2) f 13) hfe) : s.heap.get? L = some (lawFr (pb w.params b1 b2) { f with kind := .int 2 t } 13)), by simp⟩)
        · exact g1.elim))
theorem st_cut_3 (hh : A.handled = none) {L ca ck cm : Addr} {f : LF} {n : Nat} {t : Tok} (hn : n = 9 ∨ n = 13) (hf_kind : f.kind = .int 3 t) (hL : s.heap.get? L = some (lawFr (pb w.params b1 b2) f n)) 
    (hQ : ∀ h' tk (uu : Tok), Kp [] s.heap h' → Q .next { s with heap := h', toks := tk }) :
    wpAny (model prg (wb w b1 b2)) A (execs [stmtAt dB 5] (lawEnv L ca ck cm)) Q E s := by
  have hfe : f = { f with kind := .int 3 t } := by cases f; cases hf_kind; rfl
  rcases hn with rfl | rfl
  · refine wpAny_execs1 (any_fin hh [(L, lawFr (pb w.params b1 b2) { f with kind := .int 3 t } 9)] 9 [0] (.done .next) [0] [(L, lawFr (pb w.params b1 b2) { f with kind := .int 3 t } 9)] 0 1 (True) ?_ (by simp) (fun _ _ _ _ _ => by clear hQ; cases b2 <;> kernel_rfl) (trivial) (by decide) ?_)
    · simp only [List.mem_cons, List.not_mem_nil, or_false, forall_eq_or_imp, forall_eq]
      exact by rw [hL]; exact congrArg some (congrArg (fun f => lawFr (pb w.params b1 b2) f 9) hfe)
    intro h' H
    exact hQ _ _ 0 (H.kpM _ (fun b hb => by
        have : b ∈ [L] := hb
        simp only [List.mem_cons, List.not_mem_nil, or_false] at this
        rcases Or.inl (b := False) this with g0 | g1
        · exact .inr (by rw [g0]; exact ⟨_, (by rw [hL]; exact congrArg some (congrArg (fun f => lawFr (pb w.params b1 b2) f 9) hfe) : s.heap.get? L = some (lawFr (pb w.params b1 b2) { f with kind := .int 3 t } 9)), by simp⟩)
        · exact g1.elim))
  · refine wpAny_execs1 (any_fin hh [(L, lawFr (pb w.params b1 b2) { f with kind := .int 3 t } 13)] 9 [0] (.done .next) [0] [(L, lawFr (pb w.params b1 b2) { f with kind := .int 3 t } 13)] 0 1 (True) ?_ (by simp) (fun _ _ _ _ _ => by clear hQ; cases b2 <;> kernel_rfl) (trivial) (by decide) ?_)
    · simp only [List.mem_cons, List.not_mem_nil, or_false, forall_eq_or_imp, forall_eq]
      exact by rw [hL]; exact congrArg some (congrArg (fun f => lawFr (pb w.params b1 b2) f 13) hfe)
    intro h' H
    exact hQ _ _ 0 (H.kpM _ (fun b hb => by
        have : b ∈ [L] := hb
        simp only [List.mem_cons, List.not_mem_nil, or_false] at this
        rcases Or.inl (b := False) this with g0 | g1
        · exact .inr (by rw [g0]; exact ⟨_, (by rw [hL]; exact congrArg some (congrArg (fun f => lawFr (pb w.params b1 b2) f 13) hfe) : s.heap.get? L = some (lawFr (pb w.params b1 b2) { f with kind := .int 3 t } 13)), by simp⟩)
        · exact g1.elim))
theorem st_cut_0_1 (hh : A.handled = none) {L ca ck cm : Addr} {f : LF} {n : Nat} {t : Tok} {K : Addr} {nn : Nat} {k0 : Int} {u0 : Tok} (hn : n = 9 ∨ n = 13) (hnd : [L, ck, K].Nodup) (hf_kind : f.kind = .int 0 t) (hL : s.heap.get? L = some (lawFr (pb w.params b1 b2) f n)) (ho0 : s.heap.get? ck = some (cellO (some (.ref K)))) (ho1 : s.heap.get? K = some (lstO #[.int k0 u0] nn))
    (hQ : ∀ h' tk (uu : Tok), Kp [ck] s.heap h' → h'.get? ck = some (cellO (some (.ref (s.heap.objs.size + 1)))) → h'.get? (s.heap.objs.size + 1) = some (lstO #[.int k0 u0] 0) → Q .next { s with heap := h', toks := tk }) :
    wpAny (model prg (wb w b1 b2)) A (execs [stmtAt dB 5] (lawEnv L ca ck cm)) Q E s := by
  have hfe : f = { f with kind := .int 0 t } := by cases f; cases hf_kind; rfl
  rcases hn with rfl | rfl
  · refine wpAny_execs1 (any_fin hh [(L, lawFr (pb w.params b1 b2) { f with kind := .int 0 t } 9), (ck, cellO (some (.ref K))), (K, lstO #[.int k0 u0] nn)] 35 [0, 1, 3, 3, 3, 3, 0, 0, 0, 0, 0, 3, 3, 3] (.done .next) [2, 3, 4, 0] [(L, lawFr (pb w.params b1 b2) { f with kind := .int 0 t } 9), (ck, cellO (some (.ref (s.heap.objs.size + 1)))), (K, lstO #[.int k0 u0] nn), (s.heap.objs.size + 1, lstO #[.int k0 u0] 0)] 2 2 (True) ?_ hnd (fun _ _ _ _ _ => by clear hQ; cases b2 <;> kernel_rfl) (trivial) (by decide) ?_)
    · simp only [List.mem_cons, List.not_mem_nil, or_false, forall_eq_or_imp, forall_eq]
      exact ⟨by rw [hL]; exact congrArg some (congrArg (fun f => lawFr (pb w.params b1 b2) f 9) hfe), ho0, ho1⟩
    intro h' H
    exact hQ _ _ 0 (H.kpM _ (fun b hb => by
        have : b ∈ [L, ck, K] := hb
        simp only [List.mem_cons, List.not_mem_nil, or_false] at this
        rcases this with g0 | g1 | g2
        · exact .inr (by rw [g0]; exact ⟨_, (by rw [hL]; exact congrArg some (congrArg (fun f => lawFr (pb w.params b1 b2) f 9) hfe) : s.heap.get? L = some (lawFr (pb w.params b1 b2) { f with kind := .int 0 t } 9)), by simp⟩)
        · exact .inl (by rw [g1]; simp)
        · exact .inr (by rw [g2]; exact ⟨_, ho1, by simp⟩))) (H.at 1 rfl) (H.at 3 rfl)
  · refine wpAny_execs1 (any_fin hh [(L, lawFr (pb w.params b1 b2) { f with kind := .int 0 t } 13), (ck, cellO (some (.ref K))), (K, lstO #[.int k0 u0] nn)] 35 [0, 1, 3, 3, 3, 3, 0, 0, 0, 0, 0, 3, 3, 3] (.done .next) [2, 3, 4, 0] [(L, lawFr (pb w.params b1 b2) { f with kind := .int 0 t } 13), (ck, cellO (some (.ref (s.heap.objs.size + 1)))), (K, lstO #[.int k0 u0] nn), (s.heap.objs.size + 1, lstO #[.int k0 u0] 0)] 2 2 (True) ?_ hnd (fun _ _ _ _ _ => by clear hQ; cases b2 <;> kernel_rfl) (trivial) (by decide) ?_)
    · simp only [List.mem_cons, List.not_mem_nil, or_false, forall_eq_or_imp, forall_eq]
      exact ⟨by rw [hL]; exact congrArg some (congrArg (fun f => lawFr (pb w.params b1 b2) f 13) hfe), ho0, ho1⟩
    intro h' H
    exact hQ _ _ 0 (H.kpM _ (fun b hb => by
        have : b ∈ [L, ck, K] := hb
        simp only [List.mem_cons, List.not_mem_nil, or_false] at this
        rcases this with g0 | g1 | g2
        · exact .inr (by rw [g0]; exact ⟨_, (by rw [hL]; exact congrArg some (congrArg (fun f => lawFr (pb w.params b1 b2) f 13) hfe) : s.heap.get? L = some (lawFr (pb w.params b1 b2) { f with kind := .int 0 t } 13)), by simp⟩)
        · exact .inl (by rw [g1]; simp)
        · exact .inr (by rw [g2]; exact ⟨_, ho1, by simp⟩))) (H.at 1 rfl) (H.at 3 rfl)
theorem st_cut_0_2 (hh : A.handled = none) {L ca ck cm : Addr} {f : LF} {n : Nat} {t : Tok} {K : Addr} {nn : Nat} {k0 : Int} {u0 : Tok} {k1 : Int} {u1 : Tok} (hn : n = 9 ∨ n = 13) (hnd : [L, ck, K].Nodup) (hf_kind : f.kind = .int 0 t) (hL : s.heap.get? L = some (lawFr (pb w.params b1 b2) f n)) (ho0 : s.heap.get? ck = some (cellO (some (.ref K)))) (ho1 : s.heap.get? K = some (lstO #[.int k0 u0, .int k1 u1] nn))
    (hQ : ∀ h' tk (uu : Tok), Kp [ck] s.heap h' → h'.get? ck = some (cellO (some (.ref (s.heap.objs.size + 1)))) → h'.get? (s.heap.objs.size + 1) = some (lstO #[.int k0 u0] 0) → Q .next { s with heap := h', toks := tk }) :
    wpAny (model prg (wb w b1 b2)) A (execs [stmtAt dB 5] (lawEnv L ca ck cm)) Q E s := by
  have hfe : f = { f with kind := .int 0 t } := by cases f; cases hf_kind; rfl
  rcases hn with rfl | rfl
  · refine wpAny_execs1 (any_fin hh [(L, lawFr (pb w.params b1 b2) { f with kind := .int 0 t } 9), (ck, cellO (some (.ref K))), (K, lstO #[.int k0 u0, .int k1 u1] nn)] 35 [0, 1, 3, 3, 3, 3, 0, 0, 0, 0, 0, 3, 3, 3] (.done .next) [2, 3, 4, 0] [(L, lawFr (pb w.params b1 b2) { f with kind := .int 0 t } 9), (ck, cellO (some (.ref (s.heap.objs.size + 1)))), (K, lstO #[.int k0 u0, .int k1 u1] nn), (s.heap.objs.size + 1, lstO #[.int k0 u0] 0)] 2 2 (True) ?_ hnd (fun _ _ _ _ _ => by clear hQ; cases b2 <;> kernel_rfl) (trivial) (by decide) ?_)
    · simp only [List.mem_cons, List.not_mem_nil, or_false, forall_eq_or_imp, forall_eq]
      exact ⟨by rw [hL]; exact congrArg some (congrArg (fun f => lawFr (pb w.params b1 b2) f 9) hfe), ho0, ho1⟩
    intro h' H
    exact hQ _ _ 0 (H.kpM _ (fun b hb => by
        have : b ∈ [L, ck, K] := hb
        simp only [List.mem_cons, List.not_mem_nil, or_false] at this
        rcases this with g0 | g1 | g2
        · exact .inr (by rw [g0]; exact ⟨_, (by rw [hL]; exact congrArg some (congrArg (fun f => lawFr (pb w.params b1 b2) f 9) hfe) : s.heap.get? L = some (lawFr (pb w.params b1 b2) { f with kind := .int 0 t } 9)), by simp⟩)
        · exact .inl (by rw [g1]; simp)
        · exact .inr (by rw [g2]; exact ⟨_, ho1, by simp⟩))) (H.at 1 rfl) (H.at 3 rfl)
  · refine wpAny_execs1 (any_fin hh [(L, lawFr (pb w.params b1 b2) { f with kind := .int 0 t } 13), (ck, cellO (some (.ref K))), (K, lstO #[.int k0 u0, .int k1 u1] nn)] 35 [0, 1, 3, 3, 3, 3, 0, 0, 0, 0, 0, 3, 3, 3] (.done .next) [2, 3, 4, 0] [(L, lawFr (pb w.params b1 b2) { f with kind := .int 0 t } 13), (ck, cellO (some (.ref (s.heap.objs.size + 1)))), (K, lstO #[.int k0 u0, .int k1 u1] nn), (s.heap.objs.size + 1, lstO #[.int k0 u0] 0)] 2 2 (True) ?_ hnd (fun _ _ _ _ _ => by clear hQ; cases b2 <;> kernel_rfl) (trivial) (by decide) ?_)
    · simp only [List.mem_cons, List.not_mem_nil, or_false, forall_eq_or_imp, forall_eq]
      exact ⟨by rw [hL]; exact congrArg some (congrArg (fun f => lawFr (pb w.params b1 b2) f 13) hfe), ho0, ho1⟩
    intro h' H
    exact hQ _ _ 0 (H.kpM _ (fun b hb => by
        have : b ∈ [L, ck, K] := hb
        simp only [List.mem_cons, List.not_mem_nil, or_false] at this
        rcases this with g0 | g1 | g2
        · exact .inr (by rw [g0]; exact ⟨_, (by rw [hL]; exact congrArg some (congrArg (fun f => lawFr (pb w.params b1 b2) f 13) hfe) : s.heap.get? L = some (lawFr (pb w.params b1 b2) { f with kind := .int 0 t } 13)), by simp⟩)
        · exact .inl (by rw [g1]; simp)
        · exact .inr (by rw [g2]; exact ⟨_, ho1, by simp⟩))) (H.at 1 rfl) (H.at 3 rfl)
theorem st_cut_0_3 (hh : A.handled = none) {L ca ck cm : Addr} {f : LF} {n : Nat} {t : Tok} {K : Addr} {nn : Nat} {k0 : Int} {u0 : Tok} {k1 : Int} {u1 : Tok} {k2 : Int} {u2 : Tok} (hn : n = 9 ∨ n = 13) (hnd : [L, ck, K].Nodup) (hf_kind : f.kind = .int 0 t) (hL : s.heap.get? L = some (lawFr (pb w.params b1 b2) f n)) (ho0 : s.heap.get? ck = some (cellO (some (.ref K)))) (ho1 : s.heap.get? K = some (lstO #[.int k0 u0, .int k1 u1, .int k2 u2] nn))
    (hQ : ∀ h' tk (uu : Tok), Kp [ck] s.heap h' → h'.get? ck = some (cellO (some (.ref (s.heap.objs.size + 1)))) → h'.get? (s.heap.objs.size + 1) = some (lstO #[.int k0 u0] 0) → Q .next { s with heap := h', toks := tk }) :
    wpAny (model prg (wb w b1 b2)) A (execs [stmtAt dB 5] (lawEnv L ca ck cm)) Q E s := by
  have hfe : f = { f with kind := .int 0 t } := by cases f; cases hf_kind; rfl
  rcases hn with rfl | rfl
  · refine wpAny_execs1 (any_fin hh [(L, lawFr (pb w.params b1 b2) { f with kind := .int 0 t } 9), (ck, cellO (some (.ref K))), (K, lstO #[.int k0 u0, .int k1 u1, .int k2 u2] nn)] 35 [0, 1, 3, 3, 3, 3, 0, 0, 0, 0, 0, 3, 3, 3] (.done .next) [2, 3, 4, 0] [(L, lawFr (pb w.params b1 b2) { f with kind := .int 0 t } 9), (ck, cellO (some (.ref (s.heap.objs.size + 1)))), (K, lstO #[.int k0 u0, .int k1 u1, .int k2 u2] nn), (s.heap.objs.size + 1, lstO #[.int k0 u0] 0)] 2 2 (True) ?_ hnd (fun _ _ _ _ _ => by clear hQ; cases b2 <;> kernel_rfl) (trivial) (by decide) ?_)
    · simp only [List.mem_cons, List.not_mem_nil, or_false, forall_eq_or_imp, forall_eq]
      exact ⟨by rw [hL]; exact congrArg some (congrArg (fun f => lawFr (pb w.params b1 b2) f 9) hfe), ho0, ho1⟩
    intro h' H
    exact hQ _ _ 0 (H.kpM _ (fun b hb => by
        have : b ∈ [L, ck, K] := hb
        simp only [List.mem_cons, List.not_mem_nil, or_false] at this
        rcases this with g0 | g1 | g2
        · exact .inr (by rw [g0]; exact ⟨_, (by rw [hL]; exact congrArg some (congrArg (fun f => lawFr (pb w.params b1 b2) f 9) hfe) : s.heap.get? L = some (lawFr (pb w.params b1 b2) { f with kind := .int 0 t } 9)), by simp⟩)
        · exact .inl (by rw [g1]; simp)
        · exact .inr (by rw [g2]; exact ⟨_, ho1, by simp⟩))) (H.at 1 rfl) (H.at 3 rfl)
  · refine wpAny_execs1 (any_fin hh [(L, lawFr (pb w.params b1 b2) { f with kind := .int 0 t } 13), (ck, cellO (some (.ref K))), (K, lstO #[.int k0 u0, .int k1 u1, .int k2 u2] nn)] 35 [0, 1, 3, 3, 3, 3, 0, 0, 0, 0, 0, 3, 3, 3] (.done .next) [2, 3, 4, 0] [(L, lawFr (pb w.params b1 b2) { f with kind := .int 0 t } 13), (ck, cellO (some (.ref (s.heap.objs.size + 1)))), (K, lstO #[.int k0 u0, .int k1 u1, .int k2 u2] nn), (s.heap.objs.size + 1, lstO #[.int k0 u0] 0)] 2 2 (True) ?_ hnd (fun _ _ _ _ _ => by clear hQ; cases b2 <;> kernel_rfl) (trivial) (by decide) ?_)
    · simp only [List.mem_cons, List.not_mem_nil, or_false, forall_eq_or_imp, forall_eq]
      exact ⟨by rw [hL]; exact congrArg some (congrArg (fun f => lawFr (pb w.params b1 b2) f 13) hfe), ho0, ho1⟩
    intro h' H
    exact hQ _ _ 0 (H.kpM _ (fun b hb => by
        have : b ∈ [L, ck, K] := hb
        simp only [List.mem_cons, List.not_mem_nil, or_false] at this
        rcases this with g0 | g1 | g2
        · exact .inr (by rw [g0]; exact ⟨_, (by rw [hL]; exact congrArg some (congrArg (fun f => lawFr (pb w.params b1 b2) f 13) hfe) : s.heap.get? L = some (lawFr (pb w.params b1 b2) { f with kind := .int 0 t } 13)), by simp⟩)
        · exact .inl (by rw [g1]; simp)
        · exact .inr (by rw [g2]; exact ⟨_, ho1, by simp⟩))) (H.at 1 rfl) (H.at 3 rfl)
theorem st_cut_0_4 (hh : A.handled = none) {L ca ck cm : Addr} {f : LF} {n : Nat} {t : Tok} {K : Addr} {nn : Nat} {k0 : Int} {u0 : Tok} {k1 : Int} {u1 : Tok} {k2 : Int} {u2 : Tok} {k3 : Int} {u3 : Tok} (hn : n = 9 ∨ n = 13) (hnd : [L, ck, K].Nodup) (hf_kind : f.kind = .int 0 t) (hL : s.heap.get? L = some (lawFr (pb w.params b1 b2) f n)) (ho0 : s.heap.get? ck = some (cellO (some (.ref K)))) (ho1 : s.heap.get? K = some (lstO #[.int k0 u0, .int k1 u1, .int k2 u2, .int k3 u3] nn))
    (hQ : ∀ h' tk (uu : Tok), Kp [ck] s.heap h' → h'.get? ck = some (cellO (some (.ref (s.heap.objs.size + 1)))) → h'.get? (s.heap.objs.size + 1) = some (lstO #[.int k0 u0] 0) → Q .next { s with heap := h', toks := tk }) :
    wpAny (model prg (wb w b1 b2)) A (execs [stmtAt dB 5] (lawEnv L ca ck cm)) Q E s := by
  have hfe : f = { f with kind := .int 0 t } := by cases f; cases hf_kind; rfl
  rcases hn with rfl | rfl
  · refine wpAny_execs1 (any_fin hh [(L, lawFr (pb w.params b1 b2) { f with kind := .int 0 t } 9), (ck, cellO (some (.ref K))), (K, lstO #[.int k0 u0, .int k1 u1, .int k2 u2, .int k3 u3] nn)] 35 [0, 1, 3, 3, 3, 3, 0, 0, 0, 0, 0, 3, 3, 3] (.done .next) [2, 3, 4, 0] [(L, lawFr (pb w.params b1 b2) { f with kind := .int 0 t } 9), (ck, cellO (some (.ref (s.heap.objs.size + 1)))), (K, lstO #[.int k0 u0, .int k1 u1, .int k2 u2, .int k3 u3] nn), (s.heap.objs.size + 1, lstO #[.int k0 u0] 0)] 2 2 (True) ?_ hnd (fun _ _ _ _ _ => by clear hQ; cases b2 <;> kernel_rfl) (trivial) (by decide) ?_)
    · simp only [List.mem_cons, List.not_mem_nil, or_false, forall_eq_or_imp, forall_eq]
      exact ⟨by rw [hL]; exact congrArg some (congrArg (fun f => lawFr (pb w.params b1 b2) f 9) hfe), ho0, ho1⟩
    intro h' H
    exact hQ _ _ 0 (H.kpM _ (fun b hb => by
        have : b ∈ [L, ck, K] := hb
        simp only [List.mem_cons, List.not_mem_nil, or_false] at this
        rcases this with g0 | g1 | g2
        · exact .inr (by rw [g0]; exact ⟨_, (by rw [hL]; exact congrArg some (congrArg (fun f => lawFr (pb w.params b1 b2) f 9) hfe) : s.heap.get? L = some (lawFr (pb w.params b1 b2) { f with kind := .int 0 t } 9)), by simp⟩)
        · exact .inl (by rw [g1]; simp)
        · exact .inr (by rw [g2]; exact ⟨_, ho1, by simp⟩))) (H.at 1 rfl) (H.at 3 rfl)
  · refine wpAny_execs1 (any_fin hh [(L, lawFr (pb w.params b1 b2) { f with kind := .int 0 t } 13), (ck, cellO (some (.ref K))), (K, lstO #[.int k0 u0, .int k1 u1, .int k2 u2, .int k3 u3] nn)] 35 [0, 1, 3, 3, 3, 3, 0, 0, 0, 0, 0, 3, 3, 3] (.done .next) [2, 3, 4, 0] [(L, lawFr (pb w.params b1 b2) { f with kind := .int 0 t } 13), (ck, cellO (some (.ref (s.heap.objs.size + 1)))), (K, lstO #[.int k0 u0, .int k1 u1, .int k2 u2, .int k3 u3] nn), (s.heap.objs.size + 1, lstO #[.int k0 u0] 0)] 2 2 (True) ?_ hnd (fun _ _ _ _ _ => by clear hQ; cases b2 <;> kernel_rfl) (trivial) (by decide) ?_)
    · simp only [List.mem_cons, List.not_mem_nil, or_false, forall_eq_or_imp, forall_eq]
      exact ⟨by rw [hL]; exact congrArg some (congrArg (fun f => lawFr (pb w.params b1 b2) f 13) hfe), ho0, ho1⟩
    intro h' H
    exact hQ _ _ 0 (H.kpM _ (fun b hb => by
        have : b ∈ [L, ck, K] := hb
        simp only [List.mem_cons, List.not_mem_nil, or_false] at this
        rcases this with g0 | g1 | g2
        · exact .inr (by rw [g0]; exact ⟨_, (by rw [hL]; exact congrArg some (congrArg (fun f => lawFr (pb w.params b1 b2) f 13) hfe) : s.heap.get? L = some (lawFr (pb w.params b1 b2) { f with kind := .int 0 t } 13)), by simp⟩)
        · exact .inl (by rw [g1]; simp)
        · exact .inr (by rw [g2]; exact ⟨_, ho1, by simp⟩))) (H.at 1 rfl) (H.at 3 rfl)
theorem st_cut_0_5 (hh : A.handled = none) {L ca ck cm : Addr} {f : LF} {n : Nat} {t : Tok} {K : Addr} {nn : Nat} {k0 : Int} {u0 : Tok} {k1 : Int} {u1 : Tok} {k2 : Int} {u2 : Tok} {k3 : Int} {u3 : Tok} {k4 : Int} {u4 : Tok} (hn : n = 9 ∨ n = 13) (hnd : [L, ck, K].Nodup) (hf_kind : f.kind = .int 0 t) (hL : s.heap.get? L = some (lawFr (pb w.params b1 b2) f n)) (ho0 : s.heap.get? ck = some (cellO (some (.ref K)))) (ho1 : s.heap.get? K = some (lstO #[.int k0 u0, .int k1 u1, .int k2 u2, .int k3 u3, .int k4 u4] nn))
    (hQ : ∀ h' tk (uu : Tok), Kp [ck] s.heap h' → h'.get? ck = some (cellO (some (.ref (s.heap.objs.size + 1)))) → h'.get? (s.heap.objs.size + 1) = some (lstO #[.int k0 u0] 0) → Q .next { s with heap := h', toks := tk }) :
    wpAny (model prg (wb w b1 b2)) A (execs [stmtAt dB 5] (lawEnv L ca ck cm)) Q E s := by
  have hfe : f = { f with kind := .int 0 t } := by cases f; cases hf_kind; rfl
  rcases hn with rfl | rfl
  · refine wpAny_execs1 (any_fin hh [(L, lawFr (pb w.params b1 b2) { f with kind := .int 0 t } 9), (ck, cellO (some (.ref K))), (K, lstO #[.int k0 u0, .int k1 u1, .int k2 u2, .int k3 u3, .int k4 u4] nn)] 35 [0, 1, 3, 3, 3, 3, 0, 0, 0, 0, 0, 3, 3, 3] (.done .next) [2, 3, 4, 0] [(L, lawFr (pb w.params b1 b2) { f with kind := .int 0 t } 9), (ck, cellO (some (.ref (s.heap.objs.size + 1)))), (K, lstO #[.int k0 u0, .int k1 u1, .int k2 u2, .int k3 u3, .int k4 u4] nn), (s.heap.objs.size + 1, lstO #[.int k0 u0] 0)] 2 2 (True) ?_ hnd (fun _ _ _ _ _ => by clear hQ; cases b2 <;> kernel_rfl) (trivial) (by decide) ?_)
    · simp only [List.mem_cons, List.not_mem_nil, or_false, forall_eq_or_imp, forall_eq]
      exact ⟨by rw [hL]; exact congrArg some (congrArg (fun f => lawFr (pb w.params b1 b2) f 9) hfe), ho0, ho1⟩
    intro h' H
    exact hQ _ _ 0 (H.kpM _ (fun b hb => by
        have : b ∈ [L, ck, K] := hb
        simp only [List.mem_cons, List.not_mem_nil, or_false] at this
        rcases this with g0 | g1 | g2
        · exact .inr (by rw [g0]; exact ⟨_, (by rw [hL]; exact congrArg some (congrArg (fun f => lawFr (pb w.params b1 b2) f 9) hfe) : s.heap.get? L = some (lawFr (pb w.params b1 b2) { f with kind := .int 0 t } 9)), by simp⟩)
        · exact .inl (by rw [g1]; simp)
        · exact .inr (by rw [g2]; exact ⟨_, ho1, by simp⟩))) (H.at 1 rfl) (H.at 3 rfl)
  · refine wpAny_execs1 (any_fin hh [(L, lawFr (pb w.params b1 b2) { f with kind := .int 0 t } 13), (ck, cellO (some (.ref K))), (K, lstO #[.int k0 u0, .int k1 u1, .int k2 u2, .int k3 u3, .int k4 u4] nn)] 35 [0, 1, 3, 3, 3, 3, 0, 0, 0, 0, 0, 3, 3, 3] (.done .next) [2, 3, 4, 0] [(L, lawFr (pb w.params b1 b2) { f with kind := .int 0 t } 13), (ck, cellO (some (.ref (s.heap.objs.size + 1)))), (K, lstO #[.int k0 u0, .int k1 u1, .int k2 u2, .int k3 u3, .int k4 u4] nn), (s.heap.objs.size + 1, lstO #[.int k0 u0] 0)] 2 2 (True) ?_ hnd (fun _ _ _ _ _ => by clear hQ; cases b2 <;> kernel_rfl) (trivial) (by decide) ?_)
    · simp only [List.mem_cons, List.not_mem_nil, or_false, forall_eq_or_imp, forall_eq]
      exact ⟨by rw [hL]; exact congrArg some (congrArg (fun f => lawFr (pb w.params b1 b2) f 13) hfe), ho0, ho1⟩
    intro h' H
    exact hQ _ _ 0 (H.kpM _ (fun b hb => by
        have : b ∈ [L, ck, K] := hb
        simp only [List.mem_cons, List.not_mem_nil, or_false] at this
        rcases this with g0 | g1 | g2
        · exact .inr (by rw [g0]; exact ⟨_, (by rw [hL]; exact congrArg some (congrArg (fun f => lawFr (pb w.params b1 b2) f 13) hfe) : s.heap.get? L = some (lawFr (pb w.params b1 b2) { f with kind := .int 0 t } 13)), by simp⟩)
        · exact .inl (by rw [g1]; simp)
        · exact .inr (by rw [g2]; exact ⟨_, ho1, by simp⟩))) (H.at 1 rfl) (H.at 3 rfl)
end
end Mine
end

section
open PySem PySem.W PySem.W.X PySem.Builtin PyProof.Rows
set_option maxRecDepth 100000
set_option linter.unusedVariables false
set_option linter.unusedSimpArgs false
namespace Mine
theorem Rel.of_kp {M : List Addr} {s : Shared} {h' : Heap} {tk : Nat} (K : Kp M s.heap h') : Rel M s { s with heap := h', toks := tk } := ⟨K, fun h => h, rfl, rfl⟩
theorem Rel.trans {M : List Addr} {s s' s'' : Shared} (a : Rel M s s') (b : Rel M s' s'') : Rel M s s'' := ⟨a.heap.trans b.heap, fun h => b.gens (a.gens h), b.drawn.trans a.drawn, b.os.trans a.os⟩
theorem Rel.mono {M M' : List Addr} {s s' : Shared} (a : Rel M s s') (hs : ∀ x ∈ M, x ∈ M') : Rel M' s s' := ⟨a.heap.mono hs, a.gens, a.drawn, a.os⟩
section
variable {w : World} {b1 b2 : Bool} {A : Around} {s : Shared} {Q : Flow → Shared → Prop} {E : Value → Shared → Prop}

theorem st_try_0 (hh : A.handled = none) (hroom : A.depth + 4 < recursionLimit) {L ca ck cm K H : Addr} {f : LF} {n nn : Nat} {t t2 u0 : Tok} {k0 : Int} {b : Array UInt8} {tb : Option Addr} {os : List Int} (hn : n = 12 ∨ n = 13) (hlo : ∀ a ∈ [L, ck, K], 524 ≤ a) (hnd : [L, ck, K].Nodup)
    (F : Fix (pb w.params b1 b2) s.heap) (T : s.heap.get? 319 = some (tabO (genPos xoneGen) tb)) (hf_kind : f.kind = .int 0 t) (hf_handed : f.handed = .ref H) (hf_data : f.data = .bytes b t2)
    (hL : s.heap.get? L = some (lawFr (pb w.params b1 b2) f n)) (hck : s.heap.get? ck = some (cellO (some (.ref K)))) (hK : s.heap.get? K = some (lstO #[.int k0 u0] nn)) (hH : s.heap.get? H = some (BA.baO (byteArr os)))
    (hr : ∀ n ∈ os, 0 ≤ n ∧ n < 256) (hos : os.length ≤ 8) (hkey : ∀ n ∈ os, 0 ≤ Builtin.bitXor n k0 ∧ Builtin.bitXor n k0 < 256)
    (hQ : ∀ s' t' c, Rel [L, 319] s s' → s'.heap.get? L = some (lawFr (pb w.params b1 b2) { f with data := .bytes (byteArr (os.map fun o => Builtin.bitXor o k0)) t' } n) → s'.heap.get? 319 = some (tabO (genPos xoneGen) (some c)) → Q .next s') :
    wpAny (model prg (wb w b1 b2)) A (execs [stmtAt dB 10] (lawEnv L ca ck cm)) Q E s := by
  have hfe : f = { f with kind := .int 0 t, handed := .ref H, data := .bytes b t2 } := by cases f; cases hf_kind; cases hf_handed; cases hf_data; rfl
  have hsz : 524 ≤ s.heap.objs.size := Nat.le_of_lt (Nat.lt_of_le_of_lt (hlo L (by simp)) (Heap.lt_size hL))
  have hnd' := nd_fix (cs := [3, 449, 2, 448, 326, 324]) hnd hlo
  have h319 : L ≠ 319 := ne_lo (hlo L (by simp)) 319
  rcases hn with rfl | rfl
  · have hL1 : s.heap.get? L = some (lawFr (pb w.params b1 b2) { f with kind := .int 0 t, handed := .ref H, data := .bytes b t2 } 12) := by rw [hL]; exact congrArg some (congrArg (fun f => lawFr (pb w.params b1 b2) f 12) hfe)
    refine wpAny_execs1 (enter_any hh fun c own below past p hIn => ?_)
    refine go_call hIn [(L, lawFr (pb w.params b1 b2) { f with kind := .int 0 t, handed := .ref H, data := .bytes b t2 } 12), (ck, cellO (some (.ref K))), (K, lstO #[.int k0 u0] nn), (3, ob3 (pb w.params b1 b2)), (449, ob449 (pb w.params b1 b2)), (2, ob2 (pb w.params b1 b2)), (448, ob448 (pb w.params b1 b2)), (326, ob326 (pb w.params b1 b2)), (324, ob324)] 45 [0, 3, 4, 4, 4, 5, 4, 4, 4, 6, 7, 7, 7, 7, 0, 1, 2, 2, 2, 2, 8] (.call (.ref 324) ⟨[.ref H, .int k0 u0], []⟩) [0, 1, 2, 3, 4, 5, 6, 7, 8] [(L, lawFr (pb w.params b1 b2) { f with kind := .int 0 t, handed := .ref H, data := .bytes b t2 } 12), (ck, cellO (some (.ref K))), (K, lstO #[.int k0 u0] nn), (3, ob3 (pb w.params b1 b2)), (449, ob449 (pb w.params b1 b2)), (2, ob2 (pb w.params b1 b2)), (448, ob448 (pb w.params b1 b2)), (326, ob326 (pb w.params b1 b2)), (324, ob324)] 0 3 ((Value.type "list" = .type "list" ∧ (0 : Int) ≤ 0 ∧ (0 : Int) ≤ 1000 ∧ (#[.int k0 u0] : Array Value)[(0 : Int).toNat]? = some (.int k0 u0)) ∧ True) ?_ hnd' (by clear hQ; cases b2 <;> kernel_rfl) ⟨⟨rfl, by decide, by decide, rfl⟩, trivial⟩ (by decide) ?_
    · simp only [List.mem_cons, List.not_mem_nil, or_false, forall_eq_or_imp, forall_eq]
      exact ⟨hL1, hck, hK, F.get 2, F.get 14, F.get 1, F.get 13, F.get 10, F.get 7⟩
    intro h1 H1 A' hA' hh'
    have hAA : A' = A := by rw [hA']; cases b2 <;> kernel_rfl
    subst hAA
    have K1 : Kp [] s.heap h1 := H1.kpM _ (fun b hb => by
        have : b ∈ [L, ck, K, 3, 449, 2, 448, 326, 324] := hb
        simp only [List.mem_cons, List.not_mem_nil, or_false] at this
        rcases this with g0 | g1 | g2 | g3 | g4 | g5 | g6 | g7 | g8
        · exact .inr (by rw [g0]; exact ⟨_, hL1, by simp⟩)
        · exact .inr (by rw [g1]; exact ⟨_, hck, by simp⟩)
        · exact .inr (by rw [g2]; exact ⟨_, hK, by simp⟩)
        · exact .inr (by rw [g3]; exact ⟨_, F.get 2, by simp⟩)
        · exact .inr (by rw [g4]; exact ⟨_, F.get 14, by simp⟩)
        · exact .inr (by rw [g5]; exact ⟨_, F.get 1, by simp⟩)
        · exact .inr (by rw [g6]; exact ⟨_, F.get 13, by simp⟩)
        · exact .inr (by rw [g7]; exact ⟨_, F.get 10, by simp⟩)
        · exact .inr (by rw [g8]; exact ⟨_, F.get 7, by simp⟩))
    have nil : ∀ a : Addr, a ∉ ([] : List Addr) := fun a => by simp
    refine xone_call hh hroom (Nat.le_trans hsz (by rw [H1.size]; exact Nat.le_refl _)) (F.keep K1 (fun a ha => by cases ha)) (K1 _ _ T (nil _)) (.inr ⟨H, rfl, K1 _ _ hH (nil _)⟩) hr hos hkey ?_
    intro s' t' c' R1 T1
    have hL2 := R1.heap _ _ (H1.at 0 rfl) (by simpa using h319)
    refine go_fin [(L, lawFr (pb w.params b1 b2) { f with kind := .int 0 t, handed := .ref H, data := .bytes b t2 } 12)] 8 [0, 0] (.pure (.done .next)) [0] [(L, lawFr (pb w.params b1 b2) { f with kind := .int 0 t, handed := .ref H, data := .bytes (byteArr (os.map fun o => Builtin.bitXor o k0)) t' } 12)] 0 1 True (by simpa using hL2) (by simp) (by clear hQ; cases b2 <;> kernel_rfl) trivial (by decide) ?_
    intro h2 p' H2
    have K2 : Kp [L] s'.heap h2 := H2.kpM _ fun b hb => .inl hb
    refine base_done' (hQ _ t' c' (((Rel.of_kp K1).mono (fun _ h => by cases h)).trans ((R1.mono (fun x h => by simp at h; simp [h])).trans ((Rel.of_kp K2).mono (fun x h => by simp at h; simp [h])))) ((H2.at 0 rfl).trans (congrArg some (congrArg (fun z => lawFr (pb w.params b1 b2) z 12) (by cases f; cases hf_kind; cases hf_handed; cases hf_data; rfl)))) (K2 _ _ T1 (by simpa using h319.symm)))
  · have hL1 : s.heap.get? L = some (lawFr (pb w.params b1 b2) { f with kind := .int 0 t, handed := .ref H, data := .bytes b t2 } 13) := by rw [hL]; exact congrArg some (congrArg (fun f => lawFr (pb w.params b1 b2) f 13) hfe)
    refine wpAny_execs1 (enter_any hh fun c own below past p hIn => ?_)
    refine go_call hIn [(L, lawFr (pb w.params b1 b2) { f with kind := .int 0 t, handed := .ref H, data := .bytes b t2 } 13), (ck, cellO (some (.ref K))), (K, lstO #[.int k0 u0] nn), (3, ob3 (pb w.params b1 b2)), (449, ob449 (pb w.params b1 b2)), (2, ob2 (pb w.params b1 b2)), (448, ob448 (pb w.params b1 b2)), (326, ob326 (pb w.params b1 b2)), (324, ob324)] 45 [0, 3, 4, 4, 4, 5, 4, 4, 4, 6, 7, 7, 7, 7, 0, 1, 2, 2, 2, 2, 8] (.call (.ref 324) ⟨[.ref H, .int k0 u0], []⟩) [0, 1, 2, 3, 4, 5, 6, 7, 8] [(L, lawFr (pb w.params b1 b2) { f with kind := .int 0 t, handed := .ref H, data := .bytes b t2 } 13), (ck, cellO (some (.ref K))), (K, lstO #[.int k0 u0] nn), (3, ob3 (pb w.params b1 b2)), (449, ob449 (pb w.params b1 b2)), (2, ob2 (pb w.params b1 b2)), (448, ob448 (pb w.params b1 b2)), (326, ob326 (pb w.params b1 b2)), (324, ob324)] 0 3 ((Value.type "list" = .type "list" ∧ (0 : Int) ≤ 0 ∧ (0 : Int) ≤ 1000 ∧ (#[.int k0 u0] : Array Value)[(0 : Int).toNat]? = some (.int k0 u0)) ∧ True) ?_ hnd' (by clear hQ; cases b2 <;> kernel_rfl) ⟨⟨rfl, by decide, by decide, rfl⟩, trivial⟩ (by decide) ?_
    · simp only [List.mem_cons, List.not_mem_nil, or_false, forall_eq_or_imp, forall_eq]
      exact ⟨hL1, hck, hK, F.get 2, F.get 14, F.get 1, F.get 13, F.get 10, F.get 7⟩
    intro h1 H1 A' hA' hh'
    have hAA : A' = A := by rw [hA']; cases b2 <;> kernel_rfl
    subst hAA
    have K1 : Kp [] s.heap h1 := H1.kpM _ (fun b hb => by
        have : b ∈ [L, ck, K, 3, 449, 2, 448, 326, 324] := hb
        simp only [List.mem_cons, List.not_mem_nil, or_false] at this
        rcases this with g0 | g1 | g2 | g3 | g4 | g5 | g6 | g7 | g8
        · exact .inr (by rw [g0]; exact ⟨_, hL1, by simp⟩)
        · exact .inr (by rw [g1]; exact ⟨_, hck, by simp⟩)
        · exact .inr (by rw [g2]; exact ⟨_, hK, by simp⟩)
        · exact .inr (by rw [g3]; exact ⟨_, F.get 2, by simp⟩)
        · exact .inr (by rw [g4]; exact ⟨_, F.get 14, by simp⟩)
        · exact .inr (by rw [g5]; exact ⟨_, F.get 1, by simp⟩)
        · exact .inr (by rw [g6]; exact ⟨_, F.get 13, by simp⟩)
        · exact .inr (by rw [g7]; exact ⟨_, F.get 10, by simp⟩)
        · exact .inr (by rw [g8]; exact ⟨_, F.get 7, by simp⟩))
    have nil : ∀ a : Addr, a ∉ ([] : List Addr) := fun a => by simp
    refine xone_call hh hroom (Nat.le_trans hsz (by rw [H1.size]; exact Nat.le_refl _)) (F.keep K1 (fun a ha => by cases ha)) (K1 _ _ T (nil _)) (.inr ⟨H, rfl, K1 _ _ hH (nil _)⟩) hr hos hkey ?_
    intro s' t' c' R1 T1
    have hL2 := R1.heap _ _ (H1.at 0 rfl) (by simpa using h319)
    refine go_fin [(L, lawFr (pb w.params b1 b2) { f with kind := .int 0 t, handed := .ref H, data := .bytes b t2 } 13)] 8 [0, 0] (.pure (.done .next)) [0] [(L, lawFr (pb w.params b1 b2) { f with kind := .int 0 t, handed := .ref H, data := .bytes (byteArr (os.map fun o => Builtin.bitXor o k0)) t' } 13)] 0 1 True (by simpa using hL2) (by simp) (by clear hQ; cases b2 <;> kernel_rfl) trivial (by decide) ?_
    intro h2 p' H2
    have K2 : Kp [L] s'.heap h2 := H2.kpM _ fun b hb => .inl hb
    refine base_done' (hQ _ t' c' (((Rel.of_kp K1).mono (fun _ h => by cases h)).trans ((R1.mono (fun x h => by simp at h; simp [h])).trans ((Rel.of_kp K2).mono (fun x h => by simp at h; simp [h])))) ((H2.at 0 rfl).trans (congrArg some (congrArg (fun z => lawFr (pb w.params b1 b2) z 13) (by cases f; cases hf_kind; cases hf_handed; cases hf_data; rfl)))) (K2 _ _ T1 (by simpa using h319.symm)))
end
end Mine
end

section
open PySem PySem.W PySem.W.X PySem.Builtin PyProof.Rows
set_option maxRecDepth 100000
set_option linter.unusedVariables false
set_option linter.unusedSimpArgs false
namespace Mine
section
variable {w : World} {b1 b2 : Bool} {A : Around} {s : Shared} {Q : Flow → Shared → Prop} {E : Value → Shared → Prop}

theorem st_try_1 (hh : A.handled = none) (hroom : A.depth + 4 < recursionLimit) {L ca ck cm K H : Addr} {f : LF} {n : Nat} {t t2 : Tok} {b : Array UInt8} {tb : Option Addr} {os ks ns : List Int} (hn : n = 12 ∨ n = 13) (hlo : ∀ a ∈ [L, ck], 524 ≤ a) (hH5 : 524 ≤ H) (hnd : [L, ck].Nodup)
    (F : Fix (pb w.params b1 b2) s.heap) (T : s.heap.get? 329 = some (tabO (genPos xmanyGen) tb)) (hf_kind : f.kind = .int 1 t) (hf_handed : f.handed = .ref H) (hf_data : f.data = .bytes b t2)
    (hL : s.heap.get? L = some (lawFr (pb w.params b1 b2) f n)) (hck : s.heap.get? ck = some (cellO (some (.ref K)))) (hK : KeyIs s.heap K ks) (hH : s.heap.get? H = some (BA.baO (byteArr os)))
    (hr : ∀ n ∈ os, 0 ≤ n ∧ n < 256) (hrk : ∀ n ∈ ks, 0 ≤ n ∧ n < 256) (hos : os.length ≤ 8) (hk0 : ks ≠ []) (hk5 : ks.length ≤ 5) (hns : ns.length = os.length) (hnv : ∀ i, i < os.length → ns.getD i 0 = Builtin.bitXor (os.getD i 0) ((repInts ks os.length).getD i 0)) (hnr : ∀ n ∈ ns, 0 ≤ n ∧ n < 256)
    (hQ : ∀ s' t' c, Rel [L, 329] s s' → s'.heap.get? L = some (lawFr (pb w.params b1 b2) { f with data := .bytes (byteArr ns) t' } n) → s'.heap.get? 329 = some (tabO (genPos xmanyGen) (some c)) → Q .next s') :
    wpAny (model prg (wb w b1 b2)) A (execs [stmtAt dB 10] (lawEnv L ca ck cm)) Q E s := by
  have hfe : f = { f with kind := .int 1 t, handed := .ref H, data := .bytes b t2 } := by cases f; cases hf_kind; cases hf_handed; cases hf_data; rfl
  have hsz : 524 ≤ s.heap.objs.size := Nat.le_of_lt (Nat.lt_of_le_of_lt (hlo L (by simp)) (Heap.lt_size hL))
  have hnd' := nd_fix (cs := [3, 0, 449, 2, 448, 336]) hnd hlo
  have h329 : L ≠ 329 := ne_lo (hlo L (by simp)) 329
  have nil : ∀ a : Addr, a ∉ ([] : List Addr) := fun a => by simp
  obtain ⟨vs, nn, hKg, hKi⟩ := hK
  rcases hn with rfl | rfl
  · have hL1 : s.heap.get? L = some (lawFr (pb w.params b1 b2) { f with kind := .int 1 t, handed := .ref H, data := .bytes b t2 } 12) := by rw [hL]; exact congrArg some (congrArg (fun f => lawFr (pb w.params b1 b2) f 12) hfe)
    refine wpAny_execs1 (enter_any hh fun c own below past p hIn => ?_)
    refine go_callV hIn [(L, lawFr (pb w.params b1 b2) { f with kind := .int 1 t, handed := .ref H, data := .bytes b t2 } 12), (ck, cellO (some (.ref K))), (3, ob3 (pb w.params b1 b2)), (0, ob0 (pb w.params b1 b2)), (449, ob449 (pb w.params b1 b2)), (2, ob2 (pb w.params b1 b2)), (448, ob448 (pb w.params b1 b2)), (336, ob336 (pb w.params b1 b2))] 50 [0, 0, 2, 4, 4, 4, 5, 4, 4, 4, 6, 7, 7, 7, 7, 0, 2, 3, 1] (.type "bytes") [.ref K] [0, 1, 2, 3, 4, 5, 6, 7] [(L, lawFr (pb w.params b1 b2) { f with kind := .int 1 t, handed := .ref H, data := .bytes b t2 } 12), (ck, cellO (some (.ref K))), (3, ob3 (pb w.params b1 b2)), (0, ob0 (pb w.params b1 b2)), (449, ob449 (pb w.params b1 b2)), (2, ob2 (pb w.params b1 b2)), (448, ob448 (pb w.params b1 b2)), (336, ob336 (pb w.params b1 b2))] 0 3 True ?_ hnd' (by clear hQ; cases b2 <;> kernel_rfl) trivial (by decide) ?_
    · simp only [List.mem_cons, List.not_mem_nil, or_false, forall_eq_or_imp, forall_eq]
      exact ⟨hL1, hck, F.get 2, F.get 0, F.get 14, F.get 1, F.get 13, F.get 11⟩
    intro h1 H1 A' hA' hh'
    have hAA : A' = A := by rw [hA']; cases b2 <;> kernel_rfl
    subst hAA
    have K1 : Kp [] s.heap h1 := H1.kpM _ (fun b hb => by
        have : b ∈ [L, ck, 3, 0, 449, 2, 448, 336] := hb
        simp only [List.mem_cons, List.not_mem_nil, or_false] at this
        rcases this with g0 | g1 | g2 | g3 | g4 | g5 | g6 | g7
        · exact .inr (by rw [g0]; exact ⟨_, hL1, by simp⟩)
        · exact .inr (by rw [g1]; exact ⟨_, hck, by simp⟩)
        · exact .inr (by rw [g2]; exact ⟨_, F.get 2, by simp⟩)
        · exact .inr (by rw [g3]; exact ⟨_, F.get 0, by simp⟩)
        · exact .inr (by rw [g4]; exact ⟨_, F.get 14, by simp⟩)
        · exact .inr (by rw [g5]; exact ⟨_, F.get 1, by simp⟩)
        · exact .inr (by rw [g6]; exact ⟨_, F.get 13, by simp⟩)
        · exact .inr (by rw [g7]; exact ⟨_, F.get 11, by simp⟩))
    have F1 := F.keep K1 (fun a ha => by cases ha)
    refine call_bytes_ints (l := K) (vs := vs.toList) (ns := ks) ⟨_, K1 _ _ hKg (nil _), rfl, nn, rfl⟩ hKi hrk (by rw [hKi.length]; exact Nat.le_trans hk5 (by decide +kernel)) hh ?_
    intro h2 tk k2 hk
    have K2 : Kp [] h1 h2 := fun b o e _ => hk b o e
    have F2 := F1.keep K2 (fun a ha => by cases ha)
    refine go_call hIn [(334, ob334)] 3 [0] (.call (.ref 334) ⟨[.ref H, .bytes (byteArr ks) tk], []⟩) [0] [(334, ob334)] 0 0 True ?_ (by simp) (by clear hQ; cases b2 <;> kernel_rfl) trivial (by decide) ?_
    · simpa using F2.get 8
    intro h3 H3 A'' hA'' hh''
    have hAA : A'' = A' := by rw [hA'']; cases b2 <;> kernel_rfl
    subst hAA
    have K3 : Kp [] h2 h3 := H3.kpM _ (fun b hb => by
        have : b ∈ [334] := hb
        simp only [List.mem_cons, List.not_mem_nil, or_false] at this
        rcases Or.inl (b := False) this with g0 | gf
        · exact .inr (by rw [g0]; exact ⟨_, F2.get 8, by simp⟩)
        · exact gf.elim)
    have K03 := K1.trans (K2.trans K3)
    have hsz2 : 524 ≤ h3.objs.size := Nat.le_of_lt (Nat.lt_of_le_of_lt (hlo L (by simp)) (Heap.lt_size (K03 _ _ hL1 (nil _))))
    refine xmany_call hh hroom (ns := ns) hsz2 (F.keep K03 (fun a ha => by cases ha)) (K03 _ _ T (nil _)) (.inr ⟨H, rfl, K03 _ _ hH (nil _)⟩) hr hrk (fun a ha => by cases ha; exact hH5) hos hk0 hk5 hns hnv hnr ?_
    intro s' t' c' R1 T1
    have hL2 := R1.heap _ _ (K03 _ _ hL1 (nil _)) (by simpa using h329)
    refine go_fin [(L, lawFr (pb w.params b1 b2) { f with kind := .int 1 t, handed := .ref H, data := .bytes b t2 } 12)] 8 [0, 0] (.pure (.done .next)) [0] [(L, lawFr (pb w.params b1 b2) { f with kind := .int 1 t, handed := .ref H, data := .bytes (byteArr ns) t' } 12)] 0 1 True (by simpa using hL2) (by simp) (by clear hQ; cases b2 <;> kernel_rfl) trivial (by decide) ?_
    intro h4 p' H4
    have K4 : Kp [L] s'.heap h4 := H4.kpM _ fun b hb => .inl hb
    refine base_done' (hQ _ t' c' (((Rel.of_kp K03).mono (fun _ h => by cases h)).trans ((R1.mono (fun x h => by simp at h; simp [h])).trans ((Rel.of_kp K4).mono (fun x h => by simp at h; simp [h])))) ((H4.at 0 rfl).trans (congrArg some (congrArg (fun z => lawFr (pb w.params b1 b2) z 12) (by cases f; cases hf_kind; cases hf_handed; cases hf_data; rfl)))) (K4 _ _ T1 (by simpa using h329.symm)))
  · have hL1 : s.heap.get? L = some (lawFr (pb w.params b1 b2) { f with kind := .int 1 t, handed := .ref H, data := .bytes b t2 } 13) := by rw [hL]; exact congrArg some (congrArg (fun f => lawFr (pb w.params b1 b2) f 13) hfe)
    refine wpAny_execs1 (enter_any hh fun c own below past p hIn => ?_)
    refine go_callV hIn [(L, lawFr (pb w.params b1 b2) { f with kind := .int 1 t, handed := .ref H, data := .bytes b t2 } 13), (ck, cellO (some (.ref K))), (3, ob3 (pb w.params b1 b2)), (0, ob0 (pb w.params b1 b2)), (449, ob449 (pb w.params b1 b2)), (2, ob2 (pb w.params b1 b2)), (448, ob448 (pb w.params b1 b2)), (336, ob336 (pb w.params b1 b2))] 50 [0, 0, 2, 4, 4, 4, 5, 4, 4, 4, 6, 7, 7, 7, 7, 0, 2, 3, 1] (.type "bytes") [.ref K] [0, 1, 2, 3, 4, 5, 6, 7] [(L, lawFr (pb w.params b1 b2) { f with kind := .int 1 t, handed := .ref H, data := .bytes b t2 } 13), (ck, cellO (some (.ref K))), (3, ob3 (pb w.params b1 b2)), (0, ob0 (pb w.params b1 b2)), (449, ob449 (pb w.params b1 b2)), (2, ob2 (pb w.params b1 b2)), (448, ob448 (pb w.params b1 b2)), (336, ob336 (pb w.params b1 b2))] 0 3 True ?_ hnd' (by clear hQ; cases b2 <;> kernel_rfl) trivial (by decide) ?_
    · simp only [List.mem_cons, List.not_mem_nil, or_false, forall_eq_or_imp, forall_eq]
      exact ⟨hL1, hck, F.get 2, F.get 0, F.get 14, F.get 1, F.get 13, F.get 11⟩
    intro h1 H1 A' hA' hh'
    have hAA : A' = A := by rw [hA']; cases b2 <;> kernel_rfl
    subst hAA
    have K1 : Kp [] s.heap h1 := H1.kpM _ (fun b hb => by
        have : b ∈ [L, ck, 3, 0, 449, 2, 448, 336] := hb
        simp only [List.mem_cons, List.not_mem_nil, or_false] at this
        rcases this with g0 | g1 | g2 | g3 | g4 | g5 | g6 | g7
        · exact .inr (by rw [g0]; exact ⟨_, hL1, by simp⟩)
        · exact .inr (by rw [g1]; exact ⟨_, hck, by simp⟩)
        · exact .inr (by rw [g2]; exact ⟨_, F.get 2, by simp⟩)
        · exact .inr (by rw [g3]; exact ⟨_, F.get 0, by simp⟩)
        · exact .inr (by rw [g4]; exact ⟨_, F.get 14, by simp⟩)
        · exact .inr (by rw [g5]; exact ⟨_, F.get 1, by simp⟩)
        · exact .inr (by rw [g6]; exact ⟨_, F.get 13, by simp⟩)
        · exact .inr (by rw [g7]; exact ⟨_, F.get 11, by simp⟩))
    have F1 := F.keep K1 (fun a ha => by cases ha)
    refine call_bytes_ints (l := K) (vs := vs.toList) (ns := ks) ⟨_, K1 _ _ hKg (nil _), rfl, nn, rfl⟩ hKi hrk (by rw [hKi.length]; exact Nat.le_trans hk5 (by decide +kernel)) hh ?_
    intro h2 tk k2 hk
    have K2 : Kp [] h1 h2 := fun b o e _ => hk b o e
    have F2 := F1.keep K2 (fun a ha => by cases ha)
    refine go_call hIn [(334, ob334)] 3 [0] (.call (.ref 334) ⟨[.ref H, .bytes (byteArr ks) tk], []⟩) [0] [(334, ob334)] 0 0 True ?_ (by simp) (by clear hQ; cases b2 <;> kernel_rfl) trivial (by decide) ?_
    · simpa using F2.get 8
    intro h3 H3 A'' hA'' hh''
    have hAA : A'' = A' := by rw [hA'']; cases b2 <;> kernel_rfl
    subst hAA
    have K3 : Kp [] h2 h3 := H3.kpM _ (fun b hb => by
        have : b ∈ [334] := hb
        simp only [List.mem_cons, List.not_mem_nil, or_false] at this
        rcases Or.inl (b := False) this with g0 | gf
        · exact .inr (by rw [g0]; exact ⟨_, F2.get 8, by simp⟩)
        · exact gf.elim)
    have K03 := K1.trans (K2.trans K3)
    have hsz2 : 524 ≤ h3.objs.size := Nat.le_of_lt (Nat.lt_of_le_of_lt (hlo L (by simp)) (Heap.lt_size (K03 _ _ hL1 (nil _))))
    refine xmany_call hh hroom (ns := ns) hsz2 (F.keep K03 (fun a ha => by cases ha)) (K03 _ _ T (nil _)) (.inr ⟨H, rfl, K03 _ _ hH (nil _)⟩) hr hrk (fun a ha => by cases ha; exact hH5) hos hk0 hk5 hns hnv hnr ?_
    intro s' t' c' R1 T1
    have hL2 := R1.heap _ _ (K03 _ _ hL1 (nil _)) (by simpa using h329)
    refine go_fin [(L, lawFr (pb w.params b1 b2) { f with kind := .int 1 t, handed := .ref H, data := .bytes b t2 } 13)] 8 [0, 0] (.pure (.done .next)) [0] [(L, lawFr (pb w.params b1 b2) { f with kind := .int 1 t, handed := .ref H, data := .bytes (byteArr ns) t' } 13)] 0 1 True (by simpa using hL2) (by simp) (by clear hQ; cases b2 <;> kernel_rfl) trivial (by decide) ?_
    intro h4 p' H4
    have K4 : Kp [L] s'.heap h4 := H4.kpM _ fun b hb => .inl hb
    refine base_done' (hQ _ t' c' (((Rel.of_kp K03).mono (fun _ h => by cases h)).trans ((R1.mono (fun x h => by simp at h; simp [h])).trans ((Rel.of_kp K4).mono (fun x h => by simp at h; simp [h])))) ((H4.at 0 rfl).trans (congrArg some (congrArg (fun z => lawFr (pb w.params b1 b2) z 13) (by cases f; cases hf_kind; cases hf_handed; cases hf_data; rfl)))) (K4 _ _ T1 (by simpa using h329.symm)))
end
end Mine
end

section
open PySem PySem.W PySem.W.X PySem.Builtin PyProof.Rows
set_option maxRecDepth 100000
set_option linter.unusedVariables false
set_option linter.unusedSimpArgs false
namespace Mine
def rotFr0 (P : Params) (t1 t2 t3 : Tok) (d : Value) (am : Int) (ta : Tok) (g : Int) (tg : Tok) : Obj := { cls := .type "frame", data := .dict #[ent P "data" t1 d, ent P "amount" t2 (.int am ta), ent P "group_size" t3 (.int g tg)] 3 }
theorem Kp.dropAll {M N : List Addr} {h h1 : Heap} (a : Kp (M ++ N) h h1) (hM : ∀ T ∈ M, h.get? T = none) : Kp N h h1 := fun x o e n => a x o e fun m => by
  rcases List.mem_append.mp m with m | m
  · rw [hM x m] at e; cases e
  · exact n m
section
variable {w : World} {b1 b2 : Bool} {A : Around}
theorem rot_bind (a b c : Value) : bindArgs (fdOf ob344) ⟨[a, b, c], []⟩ = pure [(("data" : Str), a), (("amount" : Str), b), (("group_size" : Str), c)] := by
  kernel_rfl
def rotF (t : Tok) (t0 : Tok) (d : Value) (am : Int) (ta tg : Tok) (r : Addr) : RF := ⟨t, t + 1, t + 2, t0 + 5, t0 + 6, d, am, ta, tg, Int.fmod (-am) 8, t0 + 4, r⟩
theorem rot_pre (hh : A.handled = none) {N : Addr} {dv : Value} {t ta tg : Tok} {am : Int} {os : List Int} {s : Shared} {Q : Flow → Shared → Prop} {E : Value → Shared → Prop} (F : Fix (pb w.params b1 b2) s.heap)
    (hN : s.heap.get? N = some (rotFr0 (pb w.params b1 b2) t (t + 1) (t + 2) dv am ta 1 tg)) (S : Src s.heap dv os) (hda : ∀ a, dv = .ref a → 524 ≤ a ∧ N ≠ a) (hlo : 524 ≤ N) (hos : os.length ≤ 8)
    (hQ : ∀ h' tk' f, Kp [N] s.heap h' → f.am = am → f.an = Int.fmod (-am) 8 → f.r = s.heap.objs.size → h'.get? N = some (rotFr (pb w.params b1 b2) f none) → h'.get? s.heap.objs.size = some (BA.baO (byteArr os)) → Q .next { s with heap := h', toks := tk' }) :
    wpF (model prg (wb w b1 b2)) A (execs ((bodyOf rotS).take 3) (rotEnv N)) Q E s := by
  have hsz : (byteArr os).size ≤ sizeLine := by rw [byteArr_size]; exact Nat.le_trans hos (by decide +kernel)
  rcases S with ⟨td, rfl⟩ | ⟨a, rfl, ha⟩
  · refine wpF_execs1l (f_fin hh [(N, rotFr0 (pb w.params b1 b2) t (t + 1) (t + 2) (.bytes (byteArr os) td) am ta 1 tg), (3, ob3 (pb w.params b1 b2)), (0, ob0 (pb w.params b1 b2))] 60 [0, 0, 0, 0, 0, 1, 2, 0, 0, 0, 0, 1, 1] (.done .next) [0, 1, 2, 3]
      [(s.heap.objs.size, BA.baO (byteArr os)), (N, rotFr (pb w.params b1 b2) (rotF t s.toks (.bytes (byteArr os) td) am ta tg s.heap.objs.size) none), (3, ob3 (pb w.params b1 b2)), (0, ob0 (pb w.params b1 b2))] 1 7
      (fun Γ => (Value.type "bytearray" = .type "bytearray" ∧ (none : Option Addr) = none ∧ 0 = 0 ∧ (#[] : Array (Option Value)) = #[] ∧ (byteArr os).size ≤ sizeLine ∧ FreeC Γ) ∧ IntMulOk 1 8 ∧ True) ?_ (nd_fix (ws := [N]) (cs := [3, 0]) (by simp) (by simpa using hlo))
      (fun _ _ _ _ _ => by clear hQ; cases b2 <;> kernel_rfl) (fun Γ hF => ⟨⟨rfl, rfl, rfl, rfl, hsz, hF⟩, .of_left (by decide), trivial⟩) (by decide) ?_)
    · simp only [List.mem_cons, List.not_mem_nil, or_false, forall_eq_or_imp, forall_eq]
      exact ⟨hN, F.get 2, F.get 0⟩
    · intro h' H
      refine hQ h' _ (rotF t s.toks (.bytes (byteArr os) td) am ta tg s.heap.objs.size) (H.kpM _ fun b hb => ?_) rfl rfl rfl (H.at 1 rfl) (H.at 0 rfl)
      have : b ∈ [N, 3, 0] := hb
      simp only [List.mem_cons, List.not_mem_nil, or_false] at this
      rcases this with g | g | g
      · simp [g]
      · exact .inr (by rw [g]; exact ⟨_, F.get 2, by simp⟩)
      · exact .inr (by rw [g]; exact ⟨_, F.get 0, by simp⟩)
  · obtain ⟨hlo2, hna⟩ := hda _ rfl
    refine wpF_execs1l (f_fin hh [(N, rotFr0 (pb w.params b1 b2) t (t + 1) (t + 2) (.ref a) am ta 1 tg), (a, BA.baO (byteArr os)), (3, ob3 (pb w.params b1 b2)), (0, ob0 (pb w.params b1 b2))] 60 [0, 0, 0, 0, 0, 2, 3, 0, 0, 0, 0, 2, 1, 1] (.done .next) [0, 1, 2, 3, 4]
      [(s.heap.objs.size, BA.baO (byteArr os)), (N, rotFr (pb w.params b1 b2) (rotF t s.toks (.ref a) am ta tg s.heap.objs.size) none), (a, BA.baO (byteArr os)), (3, ob3 (pb w.params b1 b2)), (0, ob0 (pb w.params b1 b2))] 1 7
      (fun Γ => (Value.type "bytearray" = .type "bytearray" ∧ (none : Option Addr) = none ∧ 0 = 0 ∧ (#[] : Array (Option Value)) = #[] ∧ (byteArr os).size ≤ sizeLine ∧ FreeC Γ ∧ Value.type "bytearray" = .type "bytearray" ∧ (none : Option Addr) = none ∧ 0 = 0 ∧ (#[] : Array (Option Value)) = #[]) ∧ IntMulOk 1 8 ∧ True) ?_ (nd_fix (ws := [N, a]) (cs := [3, 0]) (by simp [hna]) (by simp [hlo, hlo2]))
      (fun _ _ _ _ _ => by clear hQ; cases b2 <;> kernel_rfl) (fun Γ hF => ⟨⟨rfl, rfl, rfl, rfl, hsz, hF, rfl, rfl, rfl, rfl⟩, .of_left (by decide), trivial⟩) (by decide) ?_)
    · simp only [List.mem_cons, List.not_mem_nil, or_false, forall_eq_or_imp, forall_eq]
      exact ⟨hN, ha, F.get 2, F.get 0⟩
    · intro h' H
      refine hQ h' _ (rotF t s.toks (.ref a) am ta tg s.heap.objs.size) (H.kpM _ fun b hb => ?_) rfl rfl rfl (H.at 1 rfl) (H.at 0 rfl)
      have : b ∈ [N, a, 3, 0] := hb
      simp only [List.mem_cons, List.not_mem_nil, or_false] at this
      rcases this with g | g | g | g
      · simp [g]
      · exact .inr (by rw [g]; exact ⟨_, ha, by simp⟩)
      · exact .inr (by rw [g]; exact ⟨_, F.get 2, by simp⟩)
      · exact .inr (by rw [g]; exact ⟨_, F.get 0, by simp⟩)
theorem rot_for (hh : A.handled = none) {N : Addr} {f : RF} {os : List Int} {s : Shared} {Q : Flow → Shared → Prop} {E : Value → Shared → Prop} (F : Fix (pb w.params b1 b2) s.heap) (hnd : [N, f.r].Nodup) (hlo : ∀ x ∈ [N, f.r], 524 ≤ x) (hos : os.length ≤ 8)
    (hr : ∀ n ∈ os, 0 ≤ n ∧ n < 256) (ha : 0 ≤ f.am ∧ f.am ≤ 8) (hn : 0 ≤ f.an) (hv : ∀ x ∈ os, 0 ≤ rotV f.am f.an x ∧ rotV f.am f.an x < 256)
    (hN : s.heap.get? N = some (rotFr (pb w.params b1 b2) f none)) (hrr : s.heap.get? f.r = some (BA.baO (byteArr os)))
    (hQ : ∀ h' tk' q, Kp [N, f.r] s.heap h' → h'.get? N = some (rotFr (pb w.params b1 b2) f q) → h'.get? f.r = some (BA.baO (byteArr (os.map (rotV f.am f.an)))) → Q .next { s with heap := h', toks := tk' }) :
    wpF (model prg (wb w b1 b2)) A (execs [rotFor] (rotEnv N)) Q E s := by
  obtain ⟨t1, t2, t3, t4, t5, dd, am, ta, tg, an, tn, r⟩ := f
  refine wpF_execs1 (enter_f hh fun c own below past p hIn hF => ?_)
  refine go_call hIn [(N, rotFr (pb w.params b1 b2) ⟨t1, t2, t3, t4, t5, dd, am, ta, tg, an, tn, r⟩ none), (r, BA.baO (byteArr os)), (3, ob3 (pb w.params b1 b2)), (0, ob0 (pb w.params b1 b2))] 41 [2, 3, 0, 1, 1, 1, 0, 0, 0, 0, 0, 0, 0, 0, 0] (.forLoop (forTarget rotFor) (.ref (s.heap.objs.size + 1)) (forBody rotFor) [] (rotEnv N)) [0, 1, 2, 3, 4, 5]
    [(s.heap.objs.size + 1, fldO "enumerate" #[.none, .bool false, .ref s.heap.objs.size, .int 0 0, .none, .none]), (s.heap.objs.size, fldO "bytearray_iterator" #[.ref r, .int 0 0]), (N, rotFr (pb w.params b1 b2) ⟨t1, t2, t3, t4, t5, dd, am, ta, tg, an, tn, r⟩ none), (r, BA.baO (byteArr os)), (3, ob3 (pb w.params b1 b2)), (0, ob0 (pb w.params b1 b2))] 2 0 True ?_ (nd_fix (cs := [3, 0]) hnd hlo)
    (by clear hQ; cases b2 <;> kernel_rfl) trivial (by decide) ?_
  · simp only [List.mem_cons, List.not_mem_nil, or_false, forall_eq_or_imp, forall_eq]
    exact ⟨hN, hrr, F.get 2, F.get 0⟩
  intro h1 H1 A' hA' hh'
  have K1 : Kp [] s.heap h1 := H1.kpM _ fun b hb => by
    have : b ∈ [N, r, 3, 0] := hb
    simp only [List.mem_cons, List.not_mem_nil, or_false] at this
    rcases this with g | g | g | g
    · exact .inr (by rw [g]; exact ⟨_, hN, by simp⟩)
    · exact .inr (by rw [g]; exact ⟨_, hrr, by simp⟩)
    · exact .inr (by rw [g]; exact ⟨_, F.get 2, by simp⟩)
    · exact .inr (by rw [g]; exact ⟨_, F.get 0, by simp⟩)
  have lN := Heap.lt_size hN
  have lr := Heap.lt_size hrr
  have hnd2 : [s.heap.objs.size + 1, s.heap.objs.size, N, r].Nodup := nd_pick (l := [s.heap.objs.size + 1, s.heap.objs.size, N, r, 3, 0]) H1.nd [0, 1, 2, 3] (by decide)
  refine rot_loop hh' (f := ⟨t1, t2, t3, t4, t5, dd, am, ta, tg, an, tn, r⟩) (os := os) hnd2 hos hr ha hn hv (H1.at 0 rfl) ⟨_, H1.at 1 rfl, rfl, rfl⟩ (H1.at 2 rfl) (H1.at 3 rfl) ?_
  intro h2 tk q K2 e1 e2
  have K12 : Kp [N, r] s.heap h2 := Kp.dropAll (M := [s.heap.objs.size + 1, s.heap.objs.size]) ((K1.mono (fun _ h => by cases h)).trans K2) (fun T hT => by
    simp only [List.mem_cons, List.not_mem_nil, or_false] at hT
    rcases hT with rfl | rfl
    · exact none_of_ge (Nat.le_succ _)
    · exact none_of_ge (Nat.le_refl _))
  refine go_fin [] 5 [] (.pure (.done .next)) [] [] 0 0 True (by simp) (by simp) (by clear hQ; cases b2 <;> kernel_rfl) trivial (by decide) ?_
  intro h3 p' H3
  have K3 : Kp [] h2 h3 := H3.kpM _ fun b hb => by cases hb
  exact base_done' (hQ _ _ q (K12.trans (K3.mono fun _ h => by cases h)) (K3 _ _ e1 (by simp)) (K3 _ _ e2 (by simp)))
theorem rot_ret (hh : A.handled = none) {N : Addr} {f : RF} {q : Option (Tok × Value × Tok × Value)} {os : List Int} {s : Shared} {Q : Flow → Shared → Prop} {E : Value → Shared → Prop} (F : Fix (pb w.params b1 b2) s.heap) (hnd : [N, f.r].Nodup) (hlo : ∀ x ∈ [N, f.r], 524 ≤ x) (hos : os.length ≤ 8)
    (hN : s.heap.get? N = some (rotFr (pb w.params b1 b2) f q)) (hrr : s.heap.get? f.r = some (BA.baO (byteArr os)))
    (hQ : ∀ h' tk' t, Kp [] s.heap h' → Q (.ret (.bytes (byteArr os) t)) { s with heap := h', toks := tk' }) :
    wpF (model prg (wb w b1 b2)) A (execs [stmtAt (bodyOf rotS) 4] (rotEnv N)) Q E s := by
  obtain ⟨t1, t2, t3, t4, t5, dd, am, ta, tg, an, tn, r⟩ := f
  refine wpF_execs1 (f_fin hh [(N, rotFr (pb w.params b1 b2) ⟨t1, t2, t3, t4, t5, dd, am, ta, tg, an, tn, r⟩ q), (r, BA.baO (byteArr os)), (3, ob3 (pb w.params b1 b2)), (0, ob0 (pb w.params b1 b2))] 29 [2, 3, 0, 1, 1, 1, 1, 1, 1, 1, 1, 1, 1] (.done (.ret (.bytes (byteArr os) s.toks))) [0, 1, 2, 3]
    [(N, rotFr (pb w.params b1 b2) ⟨t1, t2, t3, t4, t5, dd, am, ta, tg, an, tn, r⟩ q), (r, BA.baO (byteArr os)), (3, ob3 (pb w.params b1 b2)), (0, ob0 (pb w.params b1 b2))] 0 1 (fun _ => True) ?_ (nd_fix (cs := [3, 0]) hnd hlo)
    (fun _ _ _ _ _ => by
      clear hQ hrr
      rcases os with _ | ⟨o1, _ | ⟨o2, _ | ⟨o3, _ | ⟨o4, _ | ⟨o5, _ | ⟨o6, _ | ⟨o7, _ | ⟨o8, _ | ⟨o9, os⟩⟩⟩⟩⟩⟩⟩⟩⟩ <;>
        first
          | (exfalso; simp only [List.length_cons] at hos; omega)
          | (clear hos; rcases q with _ | ⟨u1, v1, u2, v2⟩ <;> kernel_rfl)) (fun _ _ => trivial) (by decide) ?_)
  · simp only [List.mem_cons, List.not_mem_nil, or_false, forall_eq_or_imp, forall_eq]
    exact ⟨hN, hrr, F.get 2, F.get 0⟩
  intro h1 H1
  refine hQ _ _ _ (H1.kpM _ fun b hb => ?_)
  have : b ∈ [N, r, 3, 0] := hb
  simp only [List.mem_cons, List.not_mem_nil, or_false] at this
  rcases this with g | g | g | g
  · exact .inr (by rw [g]; exact ⟨_, hN, by simp⟩)
  · exact .inr (by rw [g]; exact ⟨_, hrr, by simp⟩)
  · exact .inr (by rw [g]; exact ⟨_, F.get 2, by simp⟩)
  · exact .inr (by rw [g]; exact ⟨_, F.get 0, by simp⟩)
end
end Mine
end

section
open PySem PySem.W PySem.W.X PySem.Builtin PyProof.Rows
set_option maxRecDepth 100000
set_option linter.unusedVariables false
set_option linter.unusedSimpArgs false
namespace Mine
section
variable {w : World} {b1 b2 : Bool} {A : Around}
theorem rot_stmts : bodyOf rotS = (bodyOf rotS).take 3 ++ (rotFor :: [stmtAt (bodyOf rotS) 4]) := rfl
theorem rot_call (hh : A.handled = none) (hroom : A.depth < recursionLimit) {R : Result → Shared → Prop} {dv : Value} {am : Int} {ta tg : Tok} {os : List Int} {s : Shared} (hsz524 : 524 ≤ s.heap.objs.size) (F : Fix (pb w.params b1 b2) s.heap) (S : Src s.heap dv os) (hda : ∀ a, dv = .ref a → 524 ≤ a)
    (hr : ∀ n ∈ os, 0 ≤ n ∧ n < 256) (hos : os.length ≤ 8) (ha : 0 ≤ am ∧ am ≤ 8) (hv : ∀ x ∈ os, 0 ≤ rotV am (Int.fmod (-am) 8) x ∧ rotV am (Int.fmod (-am) 8) x < 256)
    (hR : ∀ h' tk t, Kp [] s.heap h' → R (.ok (.ret (.bytes (byteArr (os.map (rotV am (Int.fmod (-am) 8)))) t))) { s with heap := h', toks := tk }) :
    codeF (model prg (wb w b1 b2)) A (.call (.ref 344) ⟨[dv, .int am ta, .int 1 tg], []⟩) R s := by
  refine codeF_call_function (fd := fdOf ob344) hroom (F.get 9) rfl rfl rfl rfl ⟨343, _, _, _, rfl, F.get 6, rfl, rfl⟩ ?_
  refine wpAny_of_eq (rot_bind _ _ _) ?_
  rw [newEnv_eq]
  refine wpAny_envF (any_fin hh [] 30 [0, 0, 0, 0, 0, 0, 0, 0, 0, 0] (.again (.func [] (rotEnv s.heap.objs.size))) [0] [(s.heap.objs.size, rotFr0 (pb w.params b1 b2) s.toks (s.toks + 1) (s.toks + 2) dv am ta 1 tg)] 1 3 True (by simp) (by simp) (fun _ _ _ _ _ => by kernel_rfl) trivial (by decide) ?_)
  intro h₁ H
  have K1 : Kp [] s.heap h₁ := H.kpM _ fun b hb => by cases hb
  have F1 := F.keep K1 (fun a ha => by cases ha)
  have nil : ∀ a : Addr, a ∉ ([] : List Addr) := fun a => by simp
  refine ⟨nolimit_ob2 (F1.get 1), codeF_func ?_⟩
  have hhd : (A.deeper (rotEnv s.heap.objs.size)).handled = none := hh
  have S1 : Src h₁ dv os := by
    rcases S with ⟨t, e⟩ | ⟨a, e1, e2⟩
    · exact .inl ⟨t, e⟩
    · exact .inr ⟨a, e1, K1 _ _ e2 (nil _)⟩
  have hlt : ∀ a, dv = .ref a → a < s.heap.objs.size := fun a e => by
    rcases S with ⟨t, e'⟩ | ⟨a', e1, e2⟩
    · rw [e] at e'; cases e'
    · rw [e] at e1; cases e1; exact Heap.lt_size e2
  rw [rot_stmts]
  refine wpF_execs_append _ _ (rot_pre hhd F1 (H.at 0 rfl) S1 (fun a e => ⟨hda a e, Nat.ne_of_gt (hlt a e)⟩) hsz524 hos ?_)
  intro h2 tk2 f K2 f1 f2 f3 eN er
  have F2 := F1.keep K2 (fun a ha => by simp at ha; rw [ha]; exact hsz524)
  have hr524 : 524 ≤ f.r := by rw [f3]; exact Nat.le_of_lt (Nat.lt_of_le_of_lt hsz524 (Heap.lt_size (H.at 0 rfl)))
  have hNr : s.heap.objs.size ≠ f.r := by rw [f3]; exact Nat.ne_of_lt (Heap.lt_size (H.at 0 rfl))
  have hlo : ∀ x ∈ [s.heap.objs.size, f.r], 524 ≤ x := by simp [hsz524, hr524]
  rw [← f3] at er
  rw [← f2, ← f1] at hv
  refine wpF_execs_cons (rot_for hhd F2 (f := f) (by simp [hNr]) hlo hos hr (by rw [f1]; exact ha) (by rw [f2]; rw [Int.fmod_eq_emod_of_nonneg _ (by decide)]; exact Int.emod_nonneg _ (by decide)) hv eN er ?_)
  intro h3 tk3 q K3 eN3 er3
  have F3 := F2.keep K3 hlo
  refine rot_ret hhd F3 (by simp [hNr]) hlo (by simpa using hos) eN3 er3 ?_
  intro h4 tk4 t K4
  rw [f1, f2]
  refine hR h4 tk4 t (Kp.dropAll (M := [s.heap.objs.size, f.r]) (K1.mono (fun _ h => by cases h) |>.trans ((K2.mono (fun x h => by simp at h; simp [h])).trans ((K3.mono (fun x h => by simpa using h)).trans (K4.mono fun _ h => by cases h)))) (fun T hT => ?_))
  simp only [List.mem_cons, List.not_mem_nil, or_false] at hT
  rcases hT with rfl | rfl
  · exact none_of_ge (Nat.le_refl _)
  · rw [f3]; exact none_of_ge (by rw [H.size]; exact Nat.le_succ _)
end
end Mine
end

section
open PySem PySem.W PySem.W.X PySem.Builtin PyProof.Rows
set_option maxRecDepth 100000
set_option linter.unusedVariables false
set_option linter.unusedSimpArgs false
namespace Mine
def BadG (g : Int) : Prop := g = -3 ∨ g = -2 ∨ g = -1 ∨ g = 0 ∨ g = 2 ∨ g = 3 ∨ g = 4 ∨ g = 5 ∨ g = 6
abbrev NIE : Value := .type "NotImplementedError"
/-- the heap without one object -/
def hpWithout (h : Heap) (L : Addr) : Heap := h.update L fun o => { o with data := .freed }
theorem without_self (h : Heap) (L : Addr) : (hpWithout h L).get? L = none := by
  cases e : (hpWithout h L).get? L with
  | none => rfl
  | some o =>
    obtain ⟨h1, h2⟩ := PySem.Heap.get?_some_iff.mp e
    obtain ⟨objs, l⟩ := h
    have h1' : (objs.modify L fun o => { o with data := .freed })[L]? = some o := h1
    rw [Array.getElem?_modify] at h1'
    simp only [if_true] at h1'
    cases e2 : objs[L]? with
    | none => rw [e2] at h1'; cases h1'
    | some x =>
      rw [e2] at h1'
      cases h1'
      cases h2
theorem without_other (h : Heap) {L b : Addr} (hb : b ≠ L) : (hpWithout h L).get? b = h.get? b := PySem.Heap.get?_update_other _ _ (Ne.symm hb)
section
variable {w : World} {b1 b2 : Bool} {A : Around}
theorem rot_raise (hh : A.handled = none) (hroom : A.depth < recursionLimit) {R : Result → Shared → Prop} {dv : Value} {am g : Int} {ta tg : Tok} {s : Shared} {base : Heap} {env : Env} {L : Addr} {oL : Obj} (hg : BadG g) (hsz524 : 524 ≤ s.heap.objs.size) (F : Fix (pb w.params b1 b2) s.heap)
    (hfr : A.frames = some [env]) (hk : env.scope.kind ≠ .module) (hf : env.frame = some L) (hLo : s.heap.get? L = some oL) (hLd : ∀ vs, oL.data ≠ .fields vs) (hb0 : base.get? L = none) (hkb : base.StaysIn s.heap)
    (hR : ∀ h' tk e, Heap.Flying base [env] e NIE h' → (∀ b o, s.heap.get? b = some o → (∀ vs, o.data ≠ .fields vs) → ∃ sl, h'.get? b = some { o with slots := sl }) → R (.error (.ref e)) { s with heap := h', toks := tk }) :
    codeAny (model prg (wb w b1 b2)) A (.call (.ref 344) ⟨[dv, .int am ta, .int g tg], []⟩) R s := by
  refine codeAny_call_function (fd := fdOf ob344) hroom (F.get 9) rfl rfl rfl rfl ⟨343, _, _, _, rfl, F.get 6, rfl, rfl⟩ ?_
  refine wpAny_of_eq (rot_bind _ _ _) ?_
  rw [newEnv_eq]
  refine wpAny_envF (any_fin hh [] 30 [0, 0, 0, 0, 0, 0, 0, 0, 0, 0] (.again (.func [] (rotEnv s.heap.objs.size))) [0] [(s.heap.objs.size, rotFr0 (pb w.params b1 b2) s.toks (s.toks + 1) (s.toks + 2) dv am ta g tg)] 1 3 True (by simp) (by simp) (fun _ _ _ _ _ => by cases b2 <;> kernel_rfl) trivial (by decide) ?_)
  intro h₁ H
  have K1 : Kp [] s.heap h₁ := H.kpM _ fun b hb => by cases hb
  have F1 := F.keep K1 (fun a ha => by cases ha)
  have nil : ∀ a : Addr, a ∉ ([] : List Addr) := fun a => by simp
  refine ⟨nolimit_ob2 (F1.get 1), codeAny_func ?_⟩
  have hhd : (A.deeper (rotEnv s.heap.objs.size)).handled = none := hh
  have hfr2 : (A.deeper (rotEnv s.heap.objs.size)).frames = some [rotEnv s.heap.objs.size, env] := Around.frames_deeper hfr
  refine wpAny_execs1 (enter_any hhd fun c own below past p hI => ?_)
  have hL : ∀ x ∈ [(s.heap.objs.size, rotFr0 (pb w.params b1 b2) s.toks (s.toks + 1) (s.toks + 2) dv am ta g tg), (3, ob3 (pb w.params b1 b2)), (0, ob0 (pb w.params b1 b2))], h₁.get? x.1 = some x.2 := by
    simp only [List.mem_cons, List.not_mem_nil, or_false, forall_eq_or_imp, forall_eq]
    exact ⟨H.at 0 rfl, F1.get 2, F1.get 0⟩
  refine go_fin [(s.heap.objs.size, rotFr0 (pb w.params b1 b2) s.toks (s.toks + 1) (s.toks + 2) dv am ta g tg), (3, ob3 (pb w.params b1 b2)), (0, ob0 (pb w.params b1 b2))]
    63 [0, 1, 2, 0, 0, 0, 0, 0, 0, 0, 0, 0, 0, 1, 1, 1, 1, 1, 1, 1, 1] (.raise (.ref (h₁.objs.size + 2))) [1, 4, 5, 6]
    [(h₁.objs.size + 2, fldO "NotImplementedError" #[.ref (h₁.objs.size + 3), .none, .none, .none, .bool false, .none]), (s.heap.objs.size, rotFr0 (pb w.params b1 b2) s.toks (s.toks + 1) (s.toks + 2) dv am ta g tg), (3, ob3 (pb w.params b1 b2)), (0, ob0 (pb w.params b1 b2))] 4 5 True hL
    (nd_fix (ws := [s.heap.objs.size]) (cs := [3, 0]) (by simp) (by simpa using hsz524)) ?_ trivial (by decide) ?_
  · clear hR hL hI
    rcases hg with rfl | rfl | rfl | rfl | rfl | rfl | rfl | rfl | rfl <;> cases b2 <;> kernel_rfl
  intro h2 p' H2
  have hs1 : h₁.objs.size = s.heap.objs.size + 1 := H.size
  have K2 : Kp [] h₁ h2 := H2.kpM _ fun b hb => by
    have : b ∈ [s.heap.objs.size, 3, 0] := hb
    simp only [List.mem_cons, List.not_mem_nil, or_false] at this
    rcases this with g | g | g
    · exact .inr (by rw [g]; exact ⟨_, H.at 0 rfl, by simp⟩)
    · exact .inr (by rw [g]; exact ⟨_, F1.get 2, by simp⟩)
    · exact .inr (by rw [g]; exact ⟨_, F1.get 0, by simp⟩)
  have K12 : Kp [] s.heap h2 := K1.trans K2
  have fresh : ∀ a, s.heap.objs.size ≤ a → base.get? a = none := fun a ha => by
    cases e : base.get? a with
    | none => rfl
    | some o => exact absurd (Heap.lt_size (hkb _ _ e)) (Nat.not_lt.mpr ha)
  refine base_raise ?_
  refine wpAny_leaving_first (base := base) hfr2 ⟨by show (scopeOf rotS).kind ≠ _; decide +kernel, ⟨_, _, rfl, fresh _ (Nat.le_refl _), K2 _ _ (H.at 0 rfl) (nil _), fun vs e => by cases e⟩, hk, ⟨L, oL, hf, hb0, K12 _ _ hLo (nil _), hLd⟩, trivial⟩ rfl (H2.at 0 rfl) (fun b o e => K12 _ _ (hkb _ _ e) (nil _)) (fresh _ (by rw [hs1]; omega)) rfl rfl ?_
  intro h3 hl3
  obtain ⟨k1, ⟨_, _, k2⟩, k3, k4⟩ := hl3
  exact hR h3 _ _ ⟨k1, fresh _ (by rw [hs1]; omega), k2, k3⟩ fun b o e ho => k4 b o (K12 _ _ e (nil _)) ho
end
end Mine
end

section
open PySem PySem.W PySem.W.X PySem.Builtin PyProof.Rows
set_option maxRecDepth 100000
set_option linter.unusedVariables false
set_option linter.unusedSimpArgs false
namespace Mine
def tryHs : Stmt → List ExceptHandler
  | .Try _ h _ _ _ => h
  | _ => []
def tryPos : Stmt → Pos
  | .Try _ _ _ _ p => p
  | _ => default
def hTest : ExceptHandler → Expr
  | .ExceptHandler (some t) _ _ _ => t
  | _ => .Constant .none 0 default
def hBody : ExceptHandler → List Stmt
  | .ExceptHandler _ _ b _ => b
def hPos : ExceptHandler → Pos
  | .ExceptHandler _ _ _ p => p
abbrev tryS : Stmt := stmtAt dB 10
abbrev tryH : ExceptHandler := (tryHs tryS).getD 0 (.ExceptHandler none none [] default)
abbrev tryH0 : Stmt := stmtAt (hBody tryH) 0
theorem tryS_eq : tryS = .Try (tryBody tryS) [.ExceptHandler (some (hTest tryH)) none [tryH0] (hPos tryH)] [] [] (tryPos tryS) := rfl
theorem try_leaving {prog : Program} {w : World} {A : Around} {E : Value → Shared → Prop} {s : Shared} {env : Env} {body orelse : List Stmt} {h₀ : ExceptHandler} {hs : List ExceptHandler} {pos : Pos} {Q : Flow → Shared → Prop}
    (h : wpAny (model prog w) A (execs body env) (fun f s₁ => match f with | .next => wpAny (model prog w) A (execs orelse env) Q E s₁ | f => Q f s₁)
      (fun e s₁ => wpAny (model prog w) A (leaving env e) (fun _ s₃ => wpAny (model prog w) A (handleBy e env (h₀ :: hs)) Q E s₃) E s₁) s) :
    wpAny (model prog w) A (exec (.Try body (h₀ :: hs) orelse [] pos) env) Q E s := by
  rw [arm_exec_Try]
  refine wpAny_bind (wpAny_standAt ?_)
  unfold tryStmt
  simp only [List.isEmpty_nil, if_true, List.isEmpty_cons, Bool.false_and, Bool.false_eq_true, if_false]
  refine wpAny_bind (wpAny_attempt (wpAny_mono h (fun f s₁ h₁ => ?_) fun e s₁ h₁ => ?_))
  · cases f <;> first | exact h₁ | exact wpAny_pure h₁
  · have z := wpAny_bind h₁
    unfold leaving at z
    rw [bind_assoc] at z
    exact z
theorem enter_anyH {prog : Program} {w : World} {A : Around} {s : Shared} {v : Value} {t : Sem Fin} {Q : Fin → Shared → Prop} {E : Value → Shared → Prop} (hh : A.handled = some v)
    (h : ∀ c own below past p, (⟨c, some v, own, below, past⟩ : Ctx).In A →
      W (model prog w) ⟨c, some v, own, below, past⟩ (fun a _ s' => Q a s') (fun e _ s' => E e s') .base t p s) : wpAny (model prog w) A t Q E s := by
  rintro ⟨c, hd, own, below, past⟩ p hI
  have h1 : hd = some v := hI.1.trans hh
  subst h1
  exact h c own below past p hI
section
variable {w : World} {b1 b2 : Bool} {A : Around} {s : Shared} {Q : Flow → Shared → Prop} {E : Value → Shared → Prop}
theorem st_try_r (hh : A.handled = none) (hroom : A.depth < recursionLimit) {L ca ck cm H : Addr} {f : LF} {n : Nat} {t t2 ta tg : Tok} {am g : Int} {b : Array UInt8} (hn : n = 12 ∨ n = 13) (hlo : ∀ a ∈ [L, cm], 524 ≤ a) (hnd : [L, cm].Nodup)
    (F : Fix (pb w.params b1 b2) s.heap) (hfr : A.frames = some [lawEnv L ca ck cm]) (hg : BadG g) (hf_kind : f.kind = .int 3 t) (hf_handed : f.handed = .ref H) (hf_group : f.group = .int g tg)
    (hL : s.heap.get? L = some (lawFr (pb w.params b1 b2) f n)) (hcm : s.heap.get? cm = some (cellO (some (.int am ta))))
    (hQ : ∀ h' tk sl, Kp [L] s.heap h' → h'.get? L = some (lawFr (pb w.params b1 b2) { f with refused := .bool true, sl := sl } n) → Q .next { s with heap := h', toks := tk }) :
    wpAny (model prg (wb w b1 b2)) A (execs [stmtAt dB 10] (lawEnv L ca ck cm)) Q E s := by
  have hsz : 524 ≤ s.heap.objs.size := Nat.le_of_lt (Nat.lt_of_le_of_lt (hlo L (by simp)) (Heap.lt_size hL))
  have nil : ∀ a : Addr, a ∉ ([] : List Addr) := fun a => by simp
  have hbase : ∀ b o, s.heap.get? b = some o → b ≠ L → (hpWithout s.heap L).get? b = some o := fun b o e hb => (without_other _ hb).trans e
  have hstay : ∀ b o, (hpWithout s.heap L).get? b = some o → s.heap.get? b = some o := fun b o e => by
    by_cases hb : b = L
    · rw [hb, without_self] at e; cases e
    · exact (without_other _ hb).symm.trans e
  refine wpAny_execs_cons ?_
  rw [show stmtAt dB 10 = tryS from rfl, tryS_eq]
  refine try_leaving ?_
  have hfe : f = { f with kind := .int 3 t, handed := .ref H, group := .int g tg } := by cases f; cases hf_kind; cases hf_handed; cases hf_group; rfl
  have hL1 : s.heap.get? L = some (lawFr (pb w.params b1 b2) { f with kind := .int 3 t, handed := .ref H, group := .int g tg } n) := by rw [hL]; exact congrArg some (congrArg (fun f => lawFr (pb w.params b1 b2) f n) hfe)
  have hled : ∀ x ∈ [(L, lawFr (pb w.params b1 b2) { f with kind := .int 3 t, handed := .ref H, group := .int g tg } n), (cm, cellO (some (.int am ta))), (3, ob3 (pb w.params b1 b2)), (449, ob449 (pb w.params b1 b2)), (2, ob2 (pb w.params b1 b2)), (448, ob448 (pb w.params b1 b2)), (346, ob346 (pb w.params b1 b2)), (344, ob344)], s.heap.get? x.1 = some x.2 := by
    simp only [List.mem_cons, List.not_mem_nil, or_false, forall_eq_or_imp, forall_eq]
    exact ⟨hL1, hcm, F.get 2, F.get 14, F.get 1, F.get 13, F.get 12, F.get 9⟩
  refine wpAny_execs1 (enter_any hh fun c own below past p hIn => ?_)
  refine go_call hIn [(L, lawFr (pb w.params b1 b2) { f with kind := .int 3 t, handed := .ref H, group := .int g tg } n), (cm, cellO (some (.int am ta))), (3, ob3 (pb w.params b1 b2)), (449, ob449 (pb w.params b1 b2)), (2, ob2 (pb w.params b1 b2)), (448, ob448 (pb w.params b1 b2)), (346, ob346 (pb w.params b1 b2)), (344, ob344)]
    49 [0, 0, 2, 3, 3, 3, 4, 3, 3, 3, 5, 6, 6, 6, 6, 0, 1, 0, 7] (.call (.ref 344) ⟨[.ref H, .int am ta, .int g tg], []⟩) [0, 1, 2, 3, 4, 5, 6, 7]
    [(L, lawFr (pb w.params b1 b2) { f with kind := .int 3 t, handed := .ref H, group := .int g tg } n), (cm, cellO (some (.int am ta))), (3, ob3 (pb w.params b1 b2)), (449, ob449 (pb w.params b1 b2)), (2, ob2 (pb w.params b1 b2)), (448, ob448 (pb w.params b1 b2)), (346, ob346 (pb w.params b1 b2)), (344, ob344)] 0 3 True hled
    (nd_fix (cs := [3, 449, 2, 448, 346, 344]) hnd hlo) (by clear hQ hL hL1 hled; rcases hn with rfl | rfl <;> cases b2 <;> kernel_rfl) trivial (by decide) ?_
  intro h1 H1 A' hA' hh'
  have hAA : A' = A := by clear hQ hL hL1 hled H1; rw [hA']; rcases hn with rfl | rfl <;> cases b2 <;> kernel_rfl
  subst hAA
  have K1 : Kp [] s.heap h1 := H1.kpM _ fun b hb => by
    have : b ∈ [L, cm, 3, 449, 2, 448, 346, 344] := hb
    simp only [List.mem_cons, List.not_mem_nil, or_false] at this
    rcases this with g | g | g | g | g | g | g | g
    · exact .inr (by rw [g]; exact ⟨_, hL1, by simp⟩)
    · exact .inr (by rw [g]; exact ⟨_, hcm, by simp⟩)
    · exact .inr (by rw [g]; exact ⟨_, F.get 2, by simp⟩)
    · exact .inr (by rw [g]; exact ⟨_, F.get 14, by simp⟩)
    · exact .inr (by rw [g]; exact ⟨_, F.get 1, by simp⟩)
    · exact .inr (by rw [g]; exact ⟨_, F.get 13, by simp⟩)
    · exact .inr (by rw [g]; exact ⟨_, F.get 12, by simp⟩)
    · exact .inr (by rw [g]; exact ⟨_, F.get 9, by simp⟩)
  have hsz1 : 524 ≤ h1.objs.size := by rw [H1.size]; exact hsz
  have F1 := F.keep K1 (fun a ha => by cases ha)
  refine rot_raise (base := hpWithout s.heap L) hh hroom hg hsz1 F1 hfr (by show (lawSc).kind ≠ _; decide +kernel) rfl (K1 _ _ hL (nil _)) (fun vs e => by cases e) (without_self _ _) (fun b o e => K1 _ _ (hstay _ _ e) (nil _)) ?_
  intro h2 tk2 e hfl hsl
  refine go_fin [] 3 [] (.raise (.ref e)) [] [] 0 0 True (by simp) (by simp) (by clear hQ hL hL1 hled H1 hsl; rcases hn with rfl | rfl <;> cases b2 <;> kernel_rfl) trivial (by decide) ?_
  intro h3 p3 H3
  have K3 : Kp [] h2 h3 := H3.kpM _ fun b hb => by cases hb
  refine base_raise ?_
  obtain ⟨f1, f2, f3, f4⟩ := hfl
  have kp3 : ∀ b o, h2.get? b = some o → h3.get? b = some o := fun b o e => K3 _ _ e (nil _)
  refine wpAny_leaving_next (base := hpWithout s.heap L) (cls := NIE) hfr (f3.of_keeps fun b o hb _ => ⟨o, kp3 _ _ hb, rfl⟩) rfl ?_ (fun b o e => kp3 _ _ (f1 b o e)) f2 ?_
  · obtain ⟨oe, vs, T, oT, ts, q1, q2, q3, q4, q5, q6, q7, q8, q9⟩ := f4
    exact ⟨oe, vs, T, oT, ts, kp3 _ _ q1, q2, q3, q4, q5, q6, kp3 _ _ q7, q8, q9⟩
  intro h4 hl4
  obtain ⟨k1, _, k3, k4⟩ := hl4
  obtain ⟨sl2, eL2⟩ := hsl L _ (H1.at 0 rfl) (fun vs e => by cases e)
  obtain ⟨sl4, eL4⟩ := k4 L _ (kp3 _ _ eL2) (fun vs e => by cases e)
  have eL : h4.get? L = some (lawFr (pb w.params b1 b2) { f with kind := .int 3 t, handed := .ref H, group := .int g tg, sl := sl4 } n) := eL4
  have K4 : Kp [L] s.heap h4 := fun b o e hb => k1 b o (hbase b o e (by simpa using hb))
  have F4 := F.keep K4 (fun a ha => by simp at ha; rw [ha]; exact hlo L (by simp))
  obtain ⟨oe, vs, T, oT, ts, q1, q2, q3, q4, q5, q6, q7, q8, q9⟩ := k3
  have hhm : (A'.mark (some (.ref e))).handled = some (.ref e) := rfl
  have hTL : T ≠ L := fun e => by
    rw [e, eL] at q7
    cases q7
    cases q8
  refine wpAny_handleBy_builtin (X := "NotImplementedError") (T := "NotImplementedError") (b := true) (by rw [isSubtype_type]; kernel_rfl) (by rw [isSubtype_type]; kernel_rfl) (by rw [isSubtype_type]; kernel_rfl) ?_
  refine wpAny_eval1 (enter_anyH hhm fun c own below past p _ => ?_)
  refine go_fin [(3, ob3 (pb w.params b1 b2)), (0, ob0 (pb w.params b1 b2))] 12 [0, 1] (.pure (.done (.ret NIE))) [0, 1] [(3, ob3 (pb w.params b1 b2)), (0, ob0 (pb w.params b1 b2))] 0 0 True ?_ (by simp) (by clear hQ hL hL1 hled H1 hsl eL; cases b2 <;> kernel_rfl) trivial (by decide) ?_
  · simp only [List.mem_cons, List.not_mem_nil, or_false, forall_eq_or_imp, forall_eq]
    exact ⟨F4.get 2, F4.get 0⟩
  intro h5 p5 H5
  have K5 : Kp [] h4 h5 := H5.kpM _ fun b hb => by
    have : b ∈ [(3 : Addr), 0] := hb
    simp only [List.mem_cons, List.not_mem_nil, or_false] at this
    rcases this with g | g
    · exact .inr (by rw [g]; exact ⟨_, F4.get 2, by simp⟩)
    · exact .inr (by rw [g]; exact ⟨_, F4.get 0, by simp⟩)
  refine base_done' ⟨rfl, ⟨oe, K5 _ _ q1 (nil _), q2⟩, ?_⟩
  rw [if_pos rfl]
  refine wpAny_setFlight_none (K5 _ _ q1 (nil _)) q3 q4 (K5 _ _ q7 (nil _)) q8 (Array.getElem?_eq_some_iff.mp q9).1 ?_
  have oth : ∀ b o, b ≠ T → h5.get? b = some o → (h5.update T (Obj.mapFields (·.setIfInBounds 3 .none))).get? b = some o := fun b o hb e => (Heap.get?_update_other _ _ (Ne.symm hb)).trans e
  refine wpAny_execs1 (enter_anyH hhm fun c own below past p _ => ?_)
  refine go_fin [(L, lawFr (pb w.params b1 b2) { f with kind := .int 3 t, handed := .ref H, group := .int g tg, sl := sl4 } n)] 8 [0, 0] (.pure (.done .next)) [0] [(L, lawFr (pb w.params b1 b2) { f with kind := .int 3 t, handed := .ref H, group := .int g tg, refused := .bool true, sl := sl4 } n)] 0 1 True ?_ (by simp) (by clear hQ hL hL1 hled H1 hsl eL; rcases hn with rfl | rfl <;> cases b2 <;> kernel_rfl) trivial (by decide) ?_
  · simp only [List.mem_cons, List.not_mem_nil, or_false, forall_eq]
    exact oth _ _ (Ne.symm hTL) (K5 _ _ eL (nil _))
  intro h6 p6 H6
  refine base_done' (wpAny_execs_nil (hQ h6 _ sl4 (fun b o e hb => ?_) ((H6.at 0 rfl).trans (congrArg some (congrArg (fun z => lawFr (pb w.params b1 b2) z n) (by cases f; cases hf_kind; cases hf_handed; cases hf_group; rfl))))))
  have hbT : b ≠ T := fun e2 => by
    rw [e2] at e hb
    rw [hbase _ _ e (by simpa using hb)] at q5
    cases q5
  exact H6.kpM [L] (fun b hb => .inl hb) b o (oth _ _ hbT (K5 _ _ (K4 _ _ e hb) (nil _))) hb
end
end Mine
end

section
open PySem PySem.W PySem.W.X PySem.Builtin PyProof.Rows
set_option maxRecDepth 100000
set_option linter.unusedVariables false
set_option linter.unusedSimpArgs false
namespace Mine
section
variable {w : World} {b1 b2 : Bool} {A : Around} {s : Shared} {Q : Flow → Shared → Prop} {E : Value → Shared → Prop}
theorem st_try_2 (hh : A.handled = none) (hroom : A.depth < recursionLimit) {L ca ck cm H : Addr} {f : LF} {n : Nat} {t t2 ta tg : Tok} {kd am : Int} {b : Array UInt8} {os : List Int} (hn : n = 12 ∨ n = 13) (hlo : ∀ a ∈ [L, cm], 524 ≤ a) (hH5 : 524 ≤ H) (hnd : [L, cm].Nodup)
    (F : Fix (pb w.params b1 b2) s.heap) (hkd : kd = 2 ∨ kd = 3) (hf_kind : f.kind = .int kd t) (hf_handed : f.handed = .ref H) (hf_group : f.group = .int 1 tg) (hf_data : f.data = .bytes b t2)
    (hL : s.heap.get? L = some (lawFr (pb w.params b1 b2) f n)) (hcm : s.heap.get? cm = some (cellO (some (.int am ta)))) (hH : s.heap.get? H = some (BA.baO (byteArr os)))
    (hr : ∀ n ∈ os, 0 ≤ n ∧ n < 256) (hos : os.length ≤ 8) (ha : 0 ≤ am ∧ am ≤ 8) (hv : ∀ x ∈ os, 0 ≤ rotV am (Int.fmod (-am) 8) x ∧ rotV am (Int.fmod (-am) 8) x < 256)
    (hQ : ∀ h' tk t', Kp [L] s.heap h' → h'.get? L = some (lawFr (pb w.params b1 b2) { f with data := .bytes (byteArr (os.map (rotV am (Int.fmod (-am) 8)))) t' } n) → Q .next { s with heap := h', toks := tk }) :
    wpF (model prg (wb w b1 b2)) A (execs [stmtAt dB 10] (lawEnv L ca ck cm)) Q E s := by
  have hsz : 524 ≤ s.heap.objs.size := Nat.le_of_lt (Nat.lt_of_le_of_lt (hlo L (by simp)) (Heap.lt_size hL))
  have nil : ∀ a : Addr, a ∉ ([] : List Addr) := fun a => by simp
  have hfe : f = { f with kind := .int kd t, handed := .ref H, group := .int 1 tg, data := .bytes b t2 } := by cases f; cases hf_kind; cases hf_handed; cases hf_group; cases hf_data; rfl
  have hL1 : s.heap.get? L = some (lawFr (pb w.params b1 b2) { f with kind := .int kd t, handed := .ref H, group := .int 1 tg, data := .bytes b t2 } n) := by rw [hL]; exact congrArg some (congrArg (fun f => lawFr (pb w.params b1 b2) f n) hfe)
  have hled : ∀ x ∈ [(L, lawFr (pb w.params b1 b2) { f with kind := .int kd t, handed := .ref H, group := .int 1 tg, data := .bytes b t2 } n), (cm, cellO (some (.int am ta))), (3, ob3 (pb w.params b1 b2)), (449, ob449 (pb w.params b1 b2)), (2, ob2 (pb w.params b1 b2)), (448, ob448 (pb w.params b1 b2)), (346, ob346 (pb w.params b1 b2)), (344, ob344)], s.heap.get? x.1 = some x.2 := by
    simp only [List.mem_cons, List.not_mem_nil, or_false, forall_eq_or_imp, forall_eq]
    exact ⟨hL1, hcm, F.get 2, F.get 14, F.get 1, F.get 13, F.get 12, F.get 9⟩
  refine wpF_execs1 (enter_f hh fun c own below past p hIn hF => ?_)
  refine go_callF hIn hF [(L, lawFr (pb w.params b1 b2) { f with kind := .int kd t, handed := .ref H, group := .int 1 tg, data := .bytes b t2 } n), (cm, cellO (some (.int am ta))), (3, ob3 (pb w.params b1 b2)), (449, ob449 (pb w.params b1 b2)), (2, ob2 (pb w.params b1 b2)), (448, ob448 (pb w.params b1 b2)), (346, ob346 (pb w.params b1 b2)), (344, ob344)]
    50 [0, 0, 2, 3, 3, 3, 4, 3, 3, 3, 5, 6, 6, 6, 6, 0, 1, 0, 7] (.call (.ref 344) ⟨[.ref H, .int am ta, .int 1 tg], []⟩) [0, 1, 2, 3, 4, 5, 6, 7]
    [(L, lawFr (pb w.params b1 b2) { f with kind := .int kd t, handed := .ref H, group := .int 1 tg, data := .bytes b t2 } n), (cm, cellO (some (.int am ta))), (3, ob3 (pb w.params b1 b2)), (449, ob449 (pb w.params b1 b2)), (2, ob2 (pb w.params b1 b2)), (448, ob448 (pb w.params b1 b2)), (346, ob346 (pb w.params b1 b2)), (344, ob344)] 0 3 True hled
    (nd_fix (cs := [3, 449, 2, 448, 346, 344]) hnd hlo) (by clear hQ hL hL1 hled; rcases hn with rfl | rfl <;> rcases hkd with rfl | rfl <;> cases b2 <;> kernel_rfl) trivial (by decide) ?_
  intro h1 H1 A' hA' hh'
  have hAA : A' = A := by clear hQ hL hL1 hled H1; rw [hA']; rcases hn with rfl | rfl <;> rcases hkd with rfl | rfl <;> cases b2 <;> kernel_rfl
  subst hAA
  have K1 : Kp [] s.heap h1 := H1.kpM _ fun b hb => by
    have : b ∈ [L, cm, 3, 449, 2, 448, 346, 344] := hb
    simp only [List.mem_cons, List.not_mem_nil, or_false] at this
    rcases this with g | g | g | g | g | g | g | g
    · exact .inr (by rw [g]; exact ⟨_, hL1, by simp⟩)
    · exact .inr (by rw [g]; exact ⟨_, hcm, by simp⟩)
    · exact .inr (by rw [g]; exact ⟨_, F.get 2, by simp⟩)
    · exact .inr (by rw [g]; exact ⟨_, F.get 14, by simp⟩)
    · exact .inr (by rw [g]; exact ⟨_, F.get 1, by simp⟩)
    · exact .inr (by rw [g]; exact ⟨_, F.get 13, by simp⟩)
    · exact .inr (by rw [g]; exact ⟨_, F.get 12, by simp⟩)
    · exact .inr (by rw [g]; exact ⟨_, F.get 9, by simp⟩)
  have hsz1 : 524 ≤ h1.objs.size := by rw [H1.size]; exact hsz
  have F1 := F.keep K1 (fun a ha => by cases ha)
  refine rot_call hh hroom hsz1 F1 (.inr ⟨H, rfl, K1 _ _ hH (nil _)⟩) (fun a e => by cases e; exact hH5) hr hos ha hv ?_
  intro h2 tk2 t' K2
  have hL2 := K2 _ _ (H1.at 0 rfl) (nil _)
  refine go_fin [(L, lawFr (pb w.params b1 b2) { f with kind := .int kd t, handed := .ref H, group := .int 1 tg, data := .bytes b t2 } n)] 8 [0, 0] (.pure (.done .next)) [0] [(L, lawFr (pb w.params b1 b2) { f with kind := .int kd t, handed := .ref H, group := .int 1 tg, data := .bytes (byteArr (os.map (rotV am (Int.fmod (-am) 8)))) t' } n)] 0 1 True (by simpa using hL2) (by simp) (by clear hQ hL hL1 hled hL2 H1; rcases hn with rfl | rfl <;> rcases hkd with rfl | rfl <;> cases b2 <;> kernel_rfl) trivial (by decide) ?_
  intro h3 p' H3
  have K3 : Kp [L] h2 h3 := H3.kpM _ fun b hb => .inl hb
  exact base_done' (hQ h3 _ t' ((K1.mono (fun _ h => by cases h)).trans ((K2.mono (fun _ h => by cases h)).trans K3)) ((H3.at 0 rfl).trans (congrArg some (congrArg (fun z => lawFr (pb w.params b1 b2) z n) (by cases f; cases hf_kind; cases hf_handed; cases hf_group; cases hf_data; rfl)))))
end
end Mine
end

section
open PySem PySem.W PySem.W.X PySem.Builtin PyProof.Rows
set_option maxRecDepth 100000
set_option linter.unusedVariables false
set_option linter.unusedSimpArgs false
namespace Mine
theorem karr_of : ∀ {l : List Value} {ks : List Int}, IntsAre l ks → ∃ kts : List (Int × Tok), l = (kArr kts).toList ∧ kts.map (·.1) = ks
  | _, _, .nil => ⟨[], rfl, rfl⟩
  | _, _, .cons n t h => by
    obtain ⟨kts, e1, e2⟩ := karr_of h
    refine ⟨(n, t) :: kts, ?_, by simp [e2]⟩
    rw [e1]
    simp [kArr]
theorem le_ad {n : Nat} (h : 524 ≤ n) (k : Nat) : 524 ≤ n + k := Nat.le_trans h (Nat.le_add_right _ _)
theorem not_lt_ad {n k : Nat} (h : n + k < n) : False := Nat.not_lt.mpr (Nat.le_add_right _ _) h
theorem none_ad {h : Heap} (k : Nat) : h.get? (h.objs.size + k) = none := none_of_ge (Nat.le_add_right _ _)
theorem nd_old {N : Nat} {ws os : List Nat} (hw : ws.Nodup) (hn : os.Nodup) (hge : ∀ a ∈ ws, N ≤ a) (hlt : ∀ b ∈ os, b < N) : (ws ++ os).Nodup := by
  rw [List.nodup_append]
  exact ⟨hw, hn, fun a ha b hb e => absurd (hlt b hb) (Nat.not_lt.mpr (e ▸ hge a ha))⟩
theorem NewRows.base {h0 h1 h : Heap} {rs : List Value} {os : List Int} (x : NewRows h1 h rs os) (K : Kp [] h0 h1) : NewRows h0 h rs os :=
  ⟨x.1, fun i o e => by
    obtain ⟨r, g1, g2, g3, g4⟩ := x.2 i o e
    refine ⟨r, g1, g2, g3, ?_⟩
    cases e : h0.get? r with
    | none => rfl
    | some o' => rw [K _ _ e (by simp)] at g4; cases g4⟩
section
variable {w : World} {b1 b2 : Bool} {A : Around} {s : Shared} {Q : Flow → Shared → Prop} {E : Value → Shared → Prop}
theorem st_rows_x (hh : A.handled = none) {L ca cm K R : Addr} {f : LF} {n nr : Nat} {t : Tok} {kd : Int} {xs : Array Value} {os os' ks : List Int} (hn : n = 12 ∨ n = 13) (hlo : ∀ a ∈ [L, R], 524 ≤ a) (hK5 : 524 ≤ K) (hnd : [L, R].Nodup)
    (F : Fix (pb w.params b1 b2) s.heap) (hkd : kd = 0 ∨ kd = 1) (hf_kind : f.kind = .int kd t) (hf_rows : f.rows = .ref R)
    (hL : s.heap.get? L = some (lawFr (pb w.params b1 b2) f n)) (hck : s.heap.get? 527 = some (cellO (some (.ref K)))) (hK : KeyIs s.heap K ks) (hk0 : ks ≠ []) (hk5 : ks.length ≤ 5)
    (hR : s.heap.get? R = some (lstO xs nr)) (hr : RowsAre s.heap xs.toList os) (hRK0 : R ≠ K) (hrK : ∀ (i : Nat) r, xs[i]? = some (.ref r) → r ≠ K) (hos : os.length ≤ 8)
    (hx' : os'.length = os.length) (hx : ∀ kts : List (Int × Tok), kts.map (·.1) = ks → ∀ (j : Nat) o o', os[j]? = some o → os'[j]? = some o' → ∀ i, i < 8 → xbit kts j (bitI o) i = bitI o' i)
    (hQ : ∀ h' tk R' ys k, Kp [L] s.heap h' → h'.get? L = some (lawFr (pb w.params b1 b2) { f with rows := .ref R' } n) → h'.get? R' = some (lstO ys k) → 524 ≤ R' → s.heap.get? R' = none → NewRows s.heap h' ys.toList os' → Q .next { s with heap := h', toks := tk }) :
    wpAny (model prg (wb w b1 b2)) A (execs [stmtAt dB 11] (lawEnv L ca 527 cm)) Q E s := by
  have nil : ∀ a : Addr, a ∉ ([] : List Addr) := fun a => by simp
  have hsz : 524 ≤ s.heap.objs.size := Nat.le_of_lt (Nat.lt_of_le_of_lt (hlo L (by simp)) (Heap.lt_size hL))
  have hfe : f = { f with kind := .int kd t, rows := .ref R } := by cases f; cases hf_kind; cases hf_rows; rfl
  have hL1 : s.heap.get? L = some (lawFr (pb w.params b1 b2) { f with kind := .int kd t, rows := .ref R } n) := by rw [hL]; exact congrArg some (congrArg (fun f => lawFr (pb w.params b1 b2) f n) hfe)
  have hled : ∀ x ∈ [(L, lawFr (pb w.params b1 b2) { f with kind := .int kd t, rows := .ref R } n), (R, lstO xs nr), (3, ob3 (pb w.params b1 b2)), (0, ob0 (pb w.params b1 b2))], s.heap.get? x.1 = some x.2 := by
    simp only [List.mem_cons, List.not_mem_nil, or_false, forall_eq_or_imp, forall_eq]
    exact ⟨hL1, hR, F.get 2, F.get 0⟩
  obtain ⟨vs, nk, hKg, hKi⟩ := hK
  obtain ⟨kts, ek, ekm⟩ := karr_of hKi
  have ekv : vs = kArr kts := by rw [← Array.toArray_toList (xs := vs), ek, Array.toArray_toList]
  refine wpAny_execs1 (enter_any hh fun c own below past p hIn => ?_)
  refine go_again hIn [(L, lawFr (pb w.params b1 b2) { f with kind := .int kd t, rows := .ref R } n), (R, lstO xs nr), (3, ob3 (pb w.params b1 b2)), (0, ob0 (pb w.params b1 b2))]
    (cond b1 56 66) (cond b1 [0, 2, 3, 0, 1, 1, 1, 0, 0, 0, 0, 0, 0, 0, 0, 0] [0, 2, 3, 0, 1, 1, 1, 0, 0, 0, 0, 0, 0, 0, 0, 0, 3, 3, 3, 3]) (xrowsC (s.heap.objs.size + 1) (s.heap.objs.size + 2) (s.heap.objs.size + 3) (s.heap.objs.size + 4) L) [0, 1, 2, 3, 4, 5, 6, 7, 8]
    [(s.heap.objs.size + 4, cellO none), (s.heap.objs.size + 3, dicO #[] 0), (s.heap.objs.size + 2, lstO #[] 0), (s.heap.objs.size + 1, fldO "enumerate" #[.none, .bool false, .ref s.heap.objs.size, .int 0 0, .none, .none]), (s.heap.objs.size, fldO "list_iterator" #[.ref R, .int 0 0]),
      (L, lawFr (pb w.params b1 b2) { f with kind := .int kd t, rows := .ref R } n), (R, lstO xs nr), (3, ob3 (pb w.params b1 b2)), (0, ob0 (pb w.params b1 b2))] 5 1 True hled
    (nd_fix (cs := [3, 0]) hnd hlo) (by clear hQ hL hL1 hled hx; rcases hn with rfl | rfl <;> rcases hkd with rfl | rfl <;> cases b1 <;> cases b2 <;> kernel_rfl) trivial (by decide) rfl ?_
  intro h1 H1 A' hA' hh'
  have K1 : Kp [] s.heap h1 := H1.kpM _ fun b hb => by
    have : b ∈ [L, R, 3, 0] := hb
    simp only [List.mem_cons, List.not_mem_nil, or_false] at this
    rcases this with g | g | g | g
    · exact .inr (by rw [g]; exact ⟨_, hL1, by simp⟩)
    · exact .inr (by rw [g]; exact ⟨_, hR, by simp⟩)
    · exact .inr (by rw [g]; exact ⟨_, F.get 2, by simp⟩)
    · exact .inr (by rw [g]; exact ⟨_, F.get 0, by simp⟩)
  have F1 := F.keep K1 (fun a ha => by cases ha)
  have lt : ∀ a o, s.heap.get? a = some o → ∀ k, s.heap.objs.size + k ≠ a := fun a o e k => Nat.ne_of_gt (Nat.lt_of_lt_of_le (Heap.lt_size e) (Nat.le_add_right _ _))
  have hndn : [s.heap.objs.size + 1, s.heap.objs.size, s.heap.objs.size + 2, s.heap.objs.size + 3, s.heap.objs.size + 4].Nodup := nd_pick (l := [s.heap.objs.size + 4, s.heap.objs.size + 3, s.heap.objs.size + 2, s.heap.objs.size + 1, s.heap.objs.size, L, R, 3, 0]) H1.nd [3, 4, 2, 1, 0] (by decide)
  have hR527 : R ≠ 527 := fun e => by rw [e, hck] at hR; exact absurd (congrArg Obj.cls (Option.some.inj hR)) (by simp)
  have h527K : (527 : Addr) ≠ K := fun e => by rw [← e, hck] at hKg; exact absurd (congrArg Obj.cls (Option.some.inj hKg)) (by simp)
  have hRK : R ≠ K := hRK0
  have hrow : ∀ (i : Nat) r, xs[i]? = some (.ref r) → ∃ o, s.heap.get? r = some o ∧ o.cls = .type "list" := fun i r e => by
    have hlt : i < os.length := by
      have := (Array.getElem?_eq_some_iff.mp e).1
      have h2 := hr.1
      simp only [Array.length_toList] at h2
      omega
    obtain ⟨r', g1, _, t', n', g2⟩ := hr.2 i _ (List.getElem?_eq_getElem hlt)
    rw [← Array.getElem?_toList, g1] at e
    cases e
    exact ⟨_, g2, rfl⟩
  refine xrows_loop hh' (ks := kts) (xs := xs) (os := os) (os' := os') (kl := K) (nk := nk) (l := R) (old := .none) (q2 := none) ?_ ?_ F1 ⟨hr.1, fun i o e => by
    obtain ⟨r, g1, g2, g3⟩ := hr.2 i o e
    exact ⟨r, g1, g2, g3.keep K1 (nil _)⟩⟩ ?_ hos hx' (hx kts ekm) (H1.at 3 rfl) ⟨_, H1.at 4 rfl, rfl, rfl⟩ ⟨_, H1.at 6 rfl, rfl, nr, rfl⟩ (H1.at 2 rfl) (H1.at 1 rfl) (H1.at 0 rfl) (K1 _ _ hck (nil _)) (by rw [← ekv]; exact K1 _ _ hKg (nil _)) (fun e => hk0 (by rw [← ekm, e]; rfl)) (by rw [← List.length_map (f := (·.1)), ekm]; exact hk5) ?_
  · refine nd_old (N := s.heap.objs.size) (os := [R, 527, K]) hndn (by simp [hR527, h527K, hRK]) (fun a ha => ?_) (fun b hb => ?_)
    · simp only [List.mem_cons, List.not_mem_nil, or_false] at ha
      rcases ha with rfl | rfl | rfl | rfl | rfl <;> first | exact Nat.le_add_right _ _ | exact Nat.le_refl _
    · simp only [List.mem_cons, List.not_mem_nil, or_false] at hb
      rcases hb with rfl | rfl | rfl
      · exact Heap.lt_size hR
      · exact Heap.lt_size hck
      · exact Heap.lt_size hKg
  · intro a ha
    simp only [List.mem_cons, List.not_mem_nil, or_false] at ha
    rcases ha with rfl | rfl | rfl | rfl | rfl | rfl | rfl <;> first | exact hK5 | exact le_ad hsz _ | exact hsz | decide
  · intro i r e hm
    obtain ⟨o, ho, hc⟩ := hrow i r e
    have hlt := Heap.lt_size ho
    simp only [List.mem_cons, List.not_mem_nil, or_false] at hm
    rcases hm with rfl | rfl | rfl | rfl | rfl | rfl | rfl
    · exact not_lt_ad hlt
    · exact Nat.lt_irrefl _ hlt
    · exact not_lt_ad hlt
    · exact not_lt_ad hlt
    · exact not_lt_ad hlt
    · rw [hck] at ho; rw [← Option.some.inj ho] at hc; exact absurd hc (by simp)
    · exact hrK i _ e rfl
  intro h2 tk ys k q q2 K2 e1 e2 e3 e4
  have K12 : Kp [] s.heap h2 := Kp.dropAll (M := [s.heap.objs.size + 1, s.heap.objs.size, s.heap.objs.size + 2, s.heap.objs.size + 3, s.heap.objs.size + 4]) (N := []) ((K1.mono fun _ h => by cases h).trans K2) fun T hT => by
    simp only [List.mem_cons, List.not_mem_nil, or_false] at hT
    rcases hT with rfl | rfl | rfl | rfl | rfl <;> first | exact none_ad _ | exact none_of_ge (Nat.le_refl _)
  refine go_fin [(L, lawFr (pb w.params b1 b2) { f with kind := .int kd t, rows := .ref R } n), (s.heap.objs.size + 3, D1 (pb w.params b1 b2) "row" q)] 14 [0, 0, 1, 1, 1] (.pure (.done .next)) [0] [(L, lawFr (pb w.params b1 b2) { f with kind := .int kd t, rows := .ref (s.heap.objs.size + 2) } n)] 0 1 True ?_ (by simp [(lt L _ hL 3).symm]) (by clear hQ hL hL1 hled hx e3 hA' H1 K2; rcases hn with rfl | rfl <;> rcases hkd with rfl | rfl <;> rcases q with _ | ⟨u1, v1⟩ <;> cases b1 <;> cases b2 <;> kernel_rfl) trivial (by decide) ?_
  · simp only [List.mem_cons, List.not_mem_nil, or_false, forall_eq_or_imp, forall_eq]
    exact ⟨K12 _ _ hL1 (nil _), e3⟩
  intro h3 p' H3
  have hK3 : Kp [L, s.heap.objs.size + 3] h2 h3 := H3.kpM _ fun b hb => .inl hb
  have K13 : Kp [L] s.heap h3 := Kp.dropAll (M := [s.heap.objs.size + 3]) (N := [L]) ((K12.mono fun _ h => by cases h).trans (hK3.mono fun x hx => by simp at hx; rcases hx with h | h <;> simp [h])) fun T hT => by
    rw [List.mem_singleton.mp hT]; exact none_ad _
  refine base_done' (hQ h3 _ (s.heap.objs.size + 2) ys k K13 ((H3.at 0 rfl).trans (congrArg some (congrArg (fun z => lawFr (pb w.params b1 b2) z n) (by cases f; cases hf_kind; cases hf_rows; rfl)))) (hK3 _ _ e1 ?_) (le_ad hsz _) (none_ad _) ?_)
  · simp only [List.mem_cons, List.not_mem_nil, or_false, not_or]
    exact ⟨lt L _ hL 2, fun e => absurd (Nat.add_left_cancel e) (by decide)⟩
  · refine (e2.keep hK3 (fun a ha => ?_)).base K1
    simp only [List.mem_cons, List.not_mem_nil, or_false] at ha
    rcases ha with g | g
    · rw [g]; exact ⟨_, K1 _ _ hL (nil _)⟩
    · rw [g]; exact ⟨_, H1.at 1 rfl⟩
end
end Mine
end

section
open PySem PySem.W PySem.W.X PySem.Builtin PyProof.Rows
set_option maxRecDepth 100000
set_option linter.unusedVariables false
set_option linter.unusedSimpArgs false
namespace Mine
def pickq {α : Type} (q : Option (Tok × Value)) (a b : α) : α := match q with | none => a | some _ => b
theorem row_there {h : Heap} {xs : Array Value} {os : List Int} (hr : RowsAre h xs.toList os) : ∀ (i : Nat) r, xs[i]? = some (.ref r) → ∃ o, h.get? r = some o ∧ o.cls = .type "list" := fun i r e => by
  have hlt : i < os.length := by
    have := (Array.getElem?_eq_some_iff.mp e).1
    have h2 := hr.1
    simp only [Array.length_toList] at h2
    omega
  obtain ⟨r', g1, _, t', n', g2⟩ := hr.2 i _ (List.getElem?_eq_getElem hlt)
  rw [← Array.getElem?_toList, g1] at e
  cases e
  exact ⟨_, g2, rfl⟩
theorem RowsAre.keep0 {h h' : Heap} {rs : List Value} {os : List Int} (hr : RowsAre h rs os) (K : Kp [] h h') : RowsAre h' rs os := ⟨hr.1, fun i o e => by
    obtain ⟨r, g1, g2, g3⟩ := hr.2 i o e
    exact ⟨r, g1, g2, g3.keep K (by simp)⟩⟩
section
variable {w : World} {b1 b2 : Bool} {A : Around} {s : Shared} {Q : Flow → Shared → Prop} {E : Value → Shared → Prop}
theorem st_rows_r (hh : A.handled = none) {L ca ck R : Addr} {f : LF} {n nr : Nat} {t tg ta : Tok} {kd am : Int} {xs : Array Value} {os os' : List Int} (hn : n = 12 ∨ n = 13) (hlo : ∀ a ∈ [L, R], 524 ≤ a) (hnd : [L, R].Nodup)
    (hkd : kd = 2 ∨ kd = 3) (hf_kind : f.kind = .int kd t) (hf_group : f.group = .int 1 tg) (hf_rows : f.rows = .ref R)
    (hL : s.heap.get? L = some (lawFr (pb w.params b1 b2) f n)) (hcm : s.heap.get? 528 = some (cellO (some (.int am ta)))) (ha0 : 0 ≤ am) (ha8 : am ≤ 8)
    (hR : s.heap.get? R = some (lstO xs nr)) (hr : RowsAre s.heap xs.toList os) (hos : os.length ≤ 8)
    (hx' : os'.length = os.length) (hx : ∀ (j : Nat) o o', os[j]? = some o → os'[j]? = some o' → ∀ i, i < 8 → rotI am (bitI o) i = bitI o' i)
    (hQ : ∀ h' tk R' ys k, Kp [L] s.heap h' → h'.get? L = some (lawFr (pb w.params b1 b2) { f with rows := .ref R' } n) → h'.get? R' = some (lstO ys k) → 524 ≤ R' → s.heap.get? R' = none → NewRows s.heap h' ys.toList os' → Q .next { s with heap := h', toks := tk }) :
    wpAny (model prg (wb w b1 b2)) A (execs [stmtAt dB 11] (lawEnv L ca ck 528)) Q E s := by
  have nil : ∀ a : Addr, a ∉ ([] : List Addr) := fun a => by simp
  have hsz : 524 ≤ s.heap.objs.size := Nat.le_of_lt (Nat.lt_of_le_of_lt (hlo L (by simp)) (Heap.lt_size hL))
  have hfe : f = { f with kind := .int kd t, group := .int 1 tg, rows := .ref R } := by cases f; cases hf_kind; cases hf_group; cases hf_rows; rfl
  have hL1 : s.heap.get? L = some (lawFr (pb w.params b1 b2) { f with kind := .int kd t, group := .int 1 tg, rows := .ref R } n) := by rw [hL]; exact congrArg some (congrArg (fun f => lawFr (pb w.params b1 b2) f n) hfe)
  have hled : ∀ x ∈ [(L, lawFr (pb w.params b1 b2) { f with kind := .int kd t, group := .int 1 tg, rows := .ref R } n), (R, lstO xs nr)], s.heap.get? x.1 = some x.2 := by
    simp only [List.mem_cons, List.not_mem_nil, or_false, forall_eq_or_imp, forall_eq]
    exact ⟨hL1, hR⟩
  refine wpAny_execs1 (enter_any hh fun c own below past p hIn => ?_)
  refine go_again hIn [(L, lawFr (pb w.params b1 b2) { f with kind := .int kd t, group := .int 1 tg, rows := .ref R } n), (R, lstO xs nr)]
    (cond b1 36 46) (cond b1 [0, 0, 0, 1, 1, 1, 0] [0, 0, 0, 1, 1, 1, 0, 2, 2, 2, 2]) (rrowsC s.heap.objs.size (s.heap.objs.size + 1) (s.heap.objs.size + 2) L) [0, 1, 2, 3, 4]
    [(s.heap.objs.size + 2, dicO #[] 0), (s.heap.objs.size + 1, lstO #[] 0), (s.heap.objs.size, fldO "list_iterator" #[.ref R, .int 0 0]),
      (L, lawFr (pb w.params b1 b2) { f with kind := .int kd t, group := .int 1 tg, rows := .ref R } n), (R, lstO xs nr)] 3 2 True hled
    hnd (by clear hQ hL hL1 hled hx; rcases hn with rfl | rfl <;> rcases hkd with rfl | rfl <;> cases b1 <;> cases b2 <;> kernel_rfl) trivial (by decide) rfl ?_
  intro h1 H1 A' hA' hh'
  have K1 : Kp [] s.heap h1 := H1.kpM _ fun b hb => by
    have : b ∈ [L, R] := hb
    simp only [List.mem_cons, List.not_mem_nil, or_false] at this
    rcases this with g | g
    · exact .inr (by rw [g]; exact ⟨_, hL1, by simp⟩)
    · exact .inr (by rw [g]; exact ⟨_, hR, by simp⟩)
  have lt : ∀ a o, s.heap.get? a = some o → ∀ k, s.heap.objs.size + k ≠ a := fun a o e k => Nat.ne_of_gt (Nat.lt_of_lt_of_le (Heap.lt_size e) (Nat.le_add_right _ _))
  have hndn : [s.heap.objs.size, s.heap.objs.size + 1, s.heap.objs.size + 2].Nodup := nd_pick (l := [s.heap.objs.size + 2, s.heap.objs.size + 1, s.heap.objs.size, L, R]) H1.nd [2, 1, 0] (by decide)
  have hR528 : R ≠ 528 := fun e => by rw [e, hcm] at hR; exact absurd (congrArg Obj.cls (Option.some.inj hR)) (by simp)
  refine rrows_loop hh' (xs := xs) (os := os) (os' := os') (l := R) (am := am) (ta := ta) ?_ ?_ ha0 ha8 (hr.keep0 K1) ?_ hos hx' hx ⟨_, H1.at 2 rfl, rfl, rfl⟩ ⟨_, H1.at 4 rfl, rfl, nr, rfl⟩ (H1.at 1 rfl) (H1.at 0 rfl) (K1 _ _ hcm (nil _)) ?_
  · refine nd_old (N := s.heap.objs.size) (os := [R, 528]) hndn (by simp [hR528]) (fun a ha => ?_) (fun b hb => ?_)
    · simp only [List.mem_cons, List.not_mem_nil, or_false] at ha
      rcases ha with rfl | rfl | rfl <;> first | exact Nat.le_add_right _ _ | exact Nat.le_refl _
    · simp only [List.mem_cons, List.not_mem_nil, or_false] at hb
      rcases hb with rfl | rfl
      · exact Heap.lt_size hR
      · exact Heap.lt_size hcm
  · intro a ha
    simp only [List.mem_cons, List.not_mem_nil, or_false] at ha
    rcases ha with rfl | rfl | rfl <;> first | exact le_ad hsz _ | exact hsz
  · intro i r e hm
    obtain ⟨o, ho, hc⟩ := row_there hr i r e
    have hlt := Heap.lt_size ho
    simp only [List.mem_cons, List.not_mem_nil, or_false] at hm
    rcases hm with rfl | rfl | rfl | rfl
    · exact Nat.lt_irrefl _ hlt
    · exact not_lt_ad hlt
    · exact not_lt_ad hlt
    · rw [hcm] at ho; rw [← Option.some.inj ho] at hc; exact absurd hc (by simp)
  intro h2 tk ys k q K2 e1 e2 e3
  have K12 : Kp [] s.heap h2 := Kp.dropAll (M := [s.heap.objs.size, s.heap.objs.size + 1, s.heap.objs.size + 2]) (N := []) ((K1.mono fun _ h => by cases h).trans K2) fun T hT => by
    simp only [List.mem_cons, List.not_mem_nil, or_false] at hT
    rcases hT with rfl | rfl | rfl <;> first | exact none_ad _ | exact none_of_ge (Nat.le_refl _)
  refine go_fin [(L, lawFr (pb w.params b1 b2) { f with kind := .int kd t, group := .int 1 tg, rows := .ref R } n), (s.heap.objs.size + 2, D1 (pb w.params b1 b2) "row" q)] 13 [0, 0, 1, 1, 1] (.pure (.done .next)) [0] [(L, lawFr (pb w.params b1 b2) { f with kind := .int kd t, group := .int 1 tg, rows := .ref (s.heap.objs.size + 1) } n)] 0 1 True ?_ (by simp [(lt L _ hL 2).symm]) (by clear hQ hL hL1 hled hx e3 hA' H1 K2; rcases hn with rfl | rfl <;> rcases hkd with rfl | rfl <;> rcases q with _ | ⟨u1, v1⟩ <;> cases b1 <;> cases b2 <;> kernel_rfl) trivial (by decide) ?_
  · simp only [List.mem_cons, List.not_mem_nil, or_false, forall_eq_or_imp, forall_eq]
    exact ⟨K12 _ _ hL1 (nil _), e3⟩
  intro h3 p' H3
  have hK3 : Kp [L, s.heap.objs.size + 2] h2 h3 := H3.kpM _ fun b hb => .inl hb
  have K13 : Kp [L] s.heap h3 := Kp.dropAll (M := [s.heap.objs.size + 2]) (N := [L]) ((K12.mono fun _ h => by cases h).trans (hK3.mono fun x hx => by simp at hx; rcases hx with h | h <;> simp [h])) fun T hT => by
    rw [List.mem_singleton.mp hT]; exact none_ad _
  refine base_done' (hQ h3 _ (s.heap.objs.size + 1) ys k K13 ((H3.at 0 rfl).trans (congrArg some (congrArg (fun z => lawFr (pb w.params b1 b2) z n) (by cases f; cases hf_kind; cases hf_group; cases hf_rows; rfl)))) (hK3 _ _ e1 ?_) (le_ad hsz _) (none_ad _) ?_)
  · simp only [List.mem_cons, List.not_mem_nil, or_false, not_or]
    exact ⟨lt L _ hL 1, fun e => absurd (Nat.add_left_cancel e) (by decide)⟩
  · refine (e2.keep hK3 (fun a ha => ?_)).base K1
    simp only [List.mem_cons, List.not_mem_nil, or_false] at ha
    rcases ha with g | g
    · rw [g]; exact ⟨_, K1 _ _ hL (nil _)⟩
    · rw [g]; exact ⟨_, H1.at 0 rfl⟩
theorem st_rows_n (hh : A.handled = none) {L ca ck cm : Addr} {f : LF} {n : Nat} {t tg : Tok} {g : Int} (hn : n = 12 ∨ n = 13) (hg : BadG g) (hf_kind : f.kind = .int 3 t) (hf_group : f.group = .int g tg)
    (hL : s.heap.get? L = some (lawFr (pb w.params b1 b2) f n)) (hQ : ∀ h' tk, Kp [] s.heap h' → Q .next { s with heap := h', toks := tk }) :
    wpAny (model prg (wb w b1 b2)) A (execs [stmtAt dB 11] (lawEnv L ca ck cm)) Q E s := by
  have hfe : f = { f with kind := .int 3 t, group := .int g tg } := by cases f; cases hf_kind; cases hf_group; rfl
  have hL1 : s.heap.get? L = some (lawFr (pb w.params b1 b2) { f with kind := .int 3 t, group := .int g tg } n) := by rw [hL]; exact congrArg some (congrArg (fun f => lawFr (pb w.params b1 b2) f n) hfe)
  refine wpAny_execs1 (any_fin hh [(L, lawFr (pb w.params b1 b2) { f with kind := .int 3 t, group := .int g tg } n)] 18 [0, 0] (.done .next) [0] [(L, lawFr (pb w.params b1 b2) { f with kind := .int 3 t, group := .int g tg } n)] 0 2 True (by simpa using hL1) (by simp) (fun _ _ _ _ _ => by clear hQ hL hL1; rcases hn with rfl | rfl <;> rcases hg with rfl | rfl | rfl | rfl | rfl | rfl | rfl | rfl | rfl <;> cases b2 <;> kernel_rfl) trivial (by decide) ?_)
  intro h1 H1
  exact hQ _ _ (H1.kpM _ fun b hb => .inr (by rw [List.mem_singleton.mp (show b ∈ [L] from hb)]; exact ⟨_, hL1, by simp⟩))
theorem st_told (hh : A.handled = none) {L ca ck cm R : Addr} {f : LF} {n nr : Nat} {xs : Array Value} {os : List Int} (hn : n = 12 ∨ n = 13) (hlo : ∀ a ∈ [L, R], 524 ≤ a) (hnd : [L, R].Nodup)
    (F : Fix (pb w.params b1 b2) s.heap) (hf_rows : f.rows = .ref R)
    (hL : s.heap.get? L = some (lawFr (pb w.params b1 b2) f n))
    (hR : s.heap.get? R = some (lstO xs nr)) (hr : RowsAre s.heap xs.toList os) (hos : os.length ≤ 8) (hoct : ∀ o ∈ os, 0 ≤ o ∧ o < 256)
    (hQ : ∀ h' tk (tt tu : Tok), Kp [L] s.heap h' → h'.get? L = some (lawFr (pb w.params b1 b2) { f with t13 := tt, told := .bytes (byteArr os) tu } 13) → Q .next { s with heap := h', toks := tk }) :
    wpAny (model prg (wb w b1 b2)) A (execs [stmtAt dB 12] (lawEnv L ca ck cm)) Q E s := by
  have nil : ∀ a : Addr, a ∉ ([] : List Addr) := fun a => by simp
  have hsz : 524 ≤ s.heap.objs.size := Nat.le_of_lt (Nat.lt_of_le_of_lt (hlo L (by simp)) (Heap.lt_size hL))
  have hfe : f = { f with rows := .ref R } := by cases f; cases hf_rows; rfl
  have hL1 : s.heap.get? L = some (lawFr (pb w.params b1 b2) { f with rows := .ref R } n) := by rw [hL]; exact congrArg some (congrArg (fun f => lawFr (pb w.params b1 b2) f n) hfe)
  have hled : ∀ x ∈ [(L, lawFr (pb w.params b1 b2) { f with rows := .ref R } n), (R, lstO xs nr), (3, ob3 (pb w.params b1 b2)), (0, ob0 (pb w.params b1 b2))], s.heap.get? x.1 = some x.2 := by
    simp only [List.mem_cons, List.not_mem_nil, or_false, forall_eq_or_imp, forall_eq]
    exact ⟨hL1, hR, F.get 2, F.get 0⟩
  refine wpAny_execs1 (enter_any hh fun c own below past p hIn => ?_)
  refine go_again hIn [(L, lawFr (pb w.params b1 b2) { f with rows := .ref R } n), (R, lstO xs nr), (3, ob3 (pb w.params b1 b2)), (0, ob0 (pb w.params b1 b2))]
    (cond b1 20 30) (cond b1 [2, 3, 0, 1, 1, 1, 0] [2, 3, 0, 1, 1, 1, 0, 2, 2, 2, 2]) (toldC s.heap.objs.size (s.heap.objs.size + 1) (s.heap.objs.size + 2) L) [0, 1, 2, 3, 4, 5, 6]
    [(s.heap.objs.size + 2, dicO #[] 0), (s.heap.objs.size + 1, lstO #[] 0), (s.heap.objs.size, fldO "list_iterator" #[.ref R, .int 0 0]),
      (L, lawFr (pb w.params b1 b2) { f with rows := .ref R } n), (R, lstO xs nr), (3, ob3 (pb w.params b1 b2)), (0, ob0 (pb w.params b1 b2))] 3 0 True hled
    (nd_fix (cs := [3, 0]) hnd hlo) (by clear hQ hL hL1 hled; rcases hn with rfl | rfl <;> cases b1 <;> cases b2 <;> kernel_rfl) trivial (by decide) rfl ?_
  intro h1 H1 A' hA' hh'
  have K1 : Kp [] s.heap h1 := H1.kpM _ fun b hb => by
    have : b ∈ [L, R, 3, 0] := hb
    simp only [List.mem_cons, List.not_mem_nil, or_false] at this
    rcases this with g | g | g | g
    · exact .inr (by rw [g]; exact ⟨_, hL1, by simp⟩)
    · exact .inr (by rw [g]; exact ⟨_, hR, by simp⟩)
    · exact .inr (by rw [g]; exact ⟨_, F.get 2, by simp⟩)
    · exact .inr (by rw [g]; exact ⟨_, F.get 0, by simp⟩)
  have F1 := F.keep K1 (fun a ha => by cases ha)
  have lt : ∀ a o, s.heap.get? a = some o → ∀ k, s.heap.objs.size + k ≠ a := fun a o e k => Nat.ne_of_gt (Nat.lt_of_lt_of_le (Heap.lt_size e) (Nat.le_add_right _ _))
  have hndn : [s.heap.objs.size, s.heap.objs.size + 1, s.heap.objs.size + 2].Nodup := nd_pick (l := [s.heap.objs.size + 2, s.heap.objs.size + 1, s.heap.objs.size, L, R, 3, 0]) H1.nd [2, 1, 0] (by decide)
  refine told_loop hh' (xs := xs) (os := os) (l := R) ?_ ?_ F1 (hr.keep0 K1) ?_ hos hoct ⟨_, H1.at 2 rfl, rfl, rfl⟩ ⟨_, H1.at 4 rfl, rfl, nr, rfl⟩ (H1.at 1 rfl) (H1.at 0 rfl) ?_
  · refine nd_old (N := s.heap.objs.size) (os := [R]) hndn (by simp) (fun a ha => ?_) (fun b hb => ?_)
    · simp only [List.mem_cons, List.not_mem_nil, or_false] at ha
      rcases ha with rfl | rfl | rfl <;> first | exact Nat.le_add_right _ _ | exact Nat.le_refl _
    · rw [List.mem_singleton.mp hb]
      exact Heap.lt_size hR
  · intro a ha
    simp only [List.mem_cons, List.not_mem_nil, or_false] at ha
    rcases ha with rfl | rfl | rfl <;> first | exact le_ad hsz _ | exact hsz
  · intro i r e hm
    obtain ⟨o, ho, hc⟩ := row_there hr i r e
    have hlt := Heap.lt_size ho
    simp only [List.mem_cons, List.not_mem_nil, or_false] at hm
    rcases hm with rfl | rfl | rfl
    · exact Nat.lt_irrefl _ hlt
    · exact not_lt_ad hlt
    · exact not_lt_ad hlt
  intro h2 tk ys k q K2 e1 e2 e3
  have K12 : Kp [] s.heap h2 := Kp.dropAll (M := [s.heap.objs.size, s.heap.objs.size + 1, s.heap.objs.size + 2]) (N := []) ((K1.mono fun _ h => by cases h).trans K2) fun T hT => by
    simp only [List.mem_cons, List.not_mem_nil, or_false] at hT
    rcases hT with rfl | rfl | rfl <;> first | exact none_ad _ | exact none_of_ge (Nat.le_refl _)
  refine go_callV hIn [(s.heap.objs.size + 2, D1 (pb w.params b1 b2) "row" q)] (pickq q 2 6) [0, 0, 0] (.type "bytes") [.ref (s.heap.objs.size + 1)] [] [] 0 0 True (by simpa using e3) (by simp) (by clear hQ hL hL1 hled e3 hA' H1 K2; rcases hn with rfl | rfl <;> rcases q with _ | ⟨u1, v1⟩ <;> cases b1 <;> cases b2 <;> kernel_rfl) trivial (by decide) ?_
  intro h3 H3 A'' hA'' hh''
  have K3 : Kp [s.heap.objs.size + 2] h2 h3 := H3.kpM _ fun b hb => .inl hb
  have ez : (os.length) ≤ sizeLine := Nat.le_trans hos (by decide +kernel)
  refine call_bytes_ints (l := s.heap.objs.size + 1) (vs := ys.toList) (ns := os) ⟨_, K3 _ _ e1 (by simp), rfl, k, rfl⟩ e2 hoct (by rw [e2.length]; exact ez) hh'' ?_
  intro h4 t4 k4 hk4
  have K4 : Kp [] h3 h4 := fun b o e _ => hk4 b o e
  have K14 : Kp [] s.heap h4 := Kp.dropAll (M := [s.heap.objs.size + 2]) (N := []) ((K12.mono fun _ h => by cases h).trans ((K3.mono fun x hx => by simpa using hx).trans (K4.mono fun _ h => by cases h))) fun T hT => by
    rw [List.mem_singleton.mp hT]; exact none_ad _
  rcases hn with rfl | rfl
  · refine go_fin [(L, lawFr (pb w.params b1 b2) { f with rows := .ref R } 12)] 8 [0, 0] (.pure (.done .next)) [0] [(L, lawFr (pb w.params b1 b2) { f with rows := .ref R, t13 := k4 + 0, told := .bytes (byteArr os) t4 } 13)] 0 1 True (by simpa using K14 _ _ hL1 (nil _)) (by simp) (by clear hQ hL hL1 hled e3 hA' H1 K2; rcases q with _ | ⟨u1, v1⟩ <;> cases b1 <;> cases b2 <;> kernel_rfl) trivial (by decide) ?_
    intro h5 p5 H5
    have K5 : Kp [L] h4 h5 := H5.kpM _ fun b hb => .inl hb
    exact base_done' (hQ h5 _ (k4 + 0) t4 ((K14.mono fun _ h => by cases h).trans K5) ((H5.at 0 rfl).trans (congrArg some (congrArg (fun z => lawFr (pb w.params b1 b2) z 13) (by cases f; cases hf_rows; rfl)))))
  · refine go_fin [(L, lawFr (pb w.params b1 b2) { f with rows := .ref R } 13)] 8 [0, 0] (.pure (.done .next)) [0] [(L, lawFr (pb w.params b1 b2) { f with rows := .ref R, t13 := f.t13, told := .bytes (byteArr os) t4 } 13)] 0 1 True (by simpa using K14 _ _ hL1 (nil _)) (by simp) (by clear hQ hL hL1 hled e3 hA' H1 K2; rcases q with _ | ⟨u1, v1⟩ <;> cases b1 <;> cases b2 <;> kernel_rfl) trivial (by decide) ?_
    intro h5 p5 H5
    have K5 : Kp [L] h4 h5 := H5.kpM _ fun b hb => .inl hb
    exact base_done' (hQ h5 _ f.t13 t4 ((K14.mono fun _ h => by cases h).trans K5) ((H5.at 0 rfl).trans (congrArg some (congrArg (fun z => lawFr (pb w.params b1 b2) z 13) (by cases f; cases hf_rows; rfl)))))

end
end Mine
end

section
open PySem PySem.W PySem.W.X PySem.Builtin PyProof.Rows
set_option maxRecDepth 100000
set_option linter.unusedVariables false
set_option linter.unusedSimpArgs false
namespace Mine
section
variable {w : World} {b1 b2 : Bool} {A : Around} {s : Shared} {E : Value → Shared → Prop}
theorem call_bytes_ba (hh : A.handled = none) {H : Addr} {os : List Int} {Q : Value → Shared → Prop} (hH : s.heap.get? H = some (BA.baO (byteArr os))) (hos : os.length ≤ 8)
    (hQ : ∀ h' tk t, Kp [] s.heap h' → Q (.bytes (byteArr os) t) { s with heap := h', toks := tk }) : wpAny (model prg (wb w b1 b2)) A (call (.type "bytes") [.ref H] []) Q E s := by
  refine wpAny_valF ?_
  rw [call_eq]
  refine any_fin hh [(H, BA.baO (byteArr os))] 30 [0, 0, 0, 0, 0, 0, 0, 0, 0, 0, 0, 0, 0, 0, 0, 0] (.done (.ret (.bytes (byteArr os) s.toks))) [0] [(H, BA.baO (byteArr os))] 0 1 True (by simpa using hH) (by simp) (fun _ _ _ _ _ => by
      clear hQ hH
      rcases os with _ | ⟨o1, _ | ⟨o2, _ | ⟨o3, _ | ⟨o4, _ | ⟨o5, _ | ⟨o6, _ | ⟨o7, _ | ⟨o8, _ | ⟨o9, os⟩⟩⟩⟩⟩⟩⟩⟩⟩ <;>
        first
          | (exfalso; simp only [List.length_cons] at hos; omega)
          | (clear hos; kernel_rfl)) trivial (by decide) ?_
  intro h' H1
  exact hQ _ _ _ (H1.kpM _ fun b hb => .inr (by rw [List.mem_singleton.mp (show b ∈ [H] from hb)]; exact ⟨_, hH, by simp⟩))
variable {Q : Flow → Shared → Prop}
/-- what the law looks at behind a deed: refused just where the group is not one -/
def RefOk (g : Int) (r : Bool) : Prop := (g = 1 ∧ r = false) ∨ (BadG g ∧ r = true)
theorem st_check1 (hh : A.handled = none) {L ca ck cm H : Addr} {f : LF} {t tg : Tok} {g : Int} {r : Bool} {os : List Int} (hlo : 524 ≤ L) (F : Fix (pb w.params b1 b2) s.heap) (hg : RefOk g r) (hf_group : f.group = .int g tg) (hf_refused : f.refused = .bool r) (hf_handed : f.handed = .ref H) (hf_before : f.before = .bytes (byteArr os) t)
    (hL : s.heap.get? L = some (lawFr (pb w.params b1 b2) f 13)) (hH : s.heap.get? H = some (BA.baO (byteArr os))) (hos : os.length ≤ 8)
    (hQ : ∀ h' tk, Kp [] s.heap h' → Q .next { s with heap := h', toks := tk }) :
    wpAny (model prg (wb w b1 b2)) A (execs [stmtAt dB 13] (lawEnv L ca ck cm)) Q E s := by
  have nil : ∀ a : Addr, a ∉ ([] : List Addr) := fun a => by simp
  have hfe : f = { f with group := .int g tg, refused := .bool r, handed := .ref H, before := .bytes (byteArr os) t } := by cases f; cases hf_group; cases hf_refused; cases hf_handed; cases hf_before; rfl
  have hL1 : s.heap.get? L = some (lawFr (pb w.params b1 b2) { f with group := .int g tg, refused := .bool r, handed := .ref H, before := .bytes (byteArr os) t } 13) := by rw [hL]; exact congrArg some (congrArg (fun f => lawFr (pb w.params b1 b2) f 13) hfe)
  have hled : ∀ x ∈ [(L, lawFr (pb w.params b1 b2) { f with group := .int g tg, refused := .bool r, handed := .ref H, before := .bytes (byteArr os) t } 13), (3, ob3 (pb w.params b1 b2)), (0, ob0 (pb w.params b1 b2))], s.heap.get? x.1 = some x.2 := by
    simp only [List.mem_cons, List.not_mem_nil, or_false, forall_eq_or_imp, forall_eq]
    exact ⟨hL1, F.get 2, F.get 0⟩
  have hgr : (g = 1 ∧ r = false) ∨ (g = -3 ∧ r = true) ∨ (g = -2 ∧ r = true) ∨ (g = -1 ∧ r = true) ∨ (g = 0 ∧ r = true) ∨ (g = 2 ∧ r = true) ∨ (g = 3 ∧ r = true) ∨ (g = 4 ∧ r = true) ∨ (g = 5 ∧ r = true) ∨ (g = 6 ∧ r = true) := by
    rcases hg with ⟨h, e⟩ | ⟨h | h | h | h | h | h | h | h | h, e⟩ <;> simp [h, e]
  refine wpAny_execs1 (enter_any hh fun c own below past p hIn => ?_)
  refine go_callV hIn [(L, lawFr (pb w.params b1 b2) { f with group := .int g tg, refused := .bool r, handed := .ref H, before := .bytes (byteArr os) t } 13), (3, ob3 (pb w.params b1 b2)), (0, ob0 (pb w.params b1 b2))] 22 [0, 0, 1, 2, 0] (.type "bytes") [.ref H] [0, 1, 2]
    [(L, lawFr (pb w.params b1 b2) { f with group := .int g tg, refused := .bool r, handed := .ref H, before := .bytes (byteArr os) t } 13), (3, ob3 (pb w.params b1 b2)), (0, ob0 (pb w.params b1 b2))] 0 1 True hled (nd_fix (ws := [L]) (cs := [3, 0]) (by simp) (by simpa using hlo))
    (by clear hQ hL hL1 hled hfe hg hf_refused hf_group; rcases hgr with ⟨rfl, rfl⟩ | ⟨rfl, rfl⟩ | ⟨rfl, rfl⟩ | ⟨rfl, rfl⟩ | ⟨rfl, rfl⟩ | ⟨rfl, rfl⟩ | ⟨rfl, rfl⟩ | ⟨rfl, rfl⟩ | ⟨rfl, rfl⟩ | ⟨rfl, rfl⟩ <;> cases b2 <;> kernel_rfl) trivial (by decide) ?_
  intro h1 H1 A' hA' hh'
  have K1 : Kp [] s.heap h1 := H1.kpM _ fun b hb => by
    have : b ∈ [L, 3, 0] := hb
    simp only [List.mem_cons, List.not_mem_nil, or_false] at this
    rcases this with g | g | g
    · exact .inr (by rw [g]; exact ⟨_, hL1, by simp⟩)
    · exact .inr (by rw [g]; exact ⟨_, F.get 2, by simp⟩)
    · exact .inr (by rw [g]; exact ⟨_, F.get 0, by simp⟩)
  refine call_bytes_ba hh' (K1 _ _ hH (nil _)) hos fun h2 tk2 t2 K2 => ?_
  have hL2 := K2 _ _ (K1 _ _ hL1 (nil _)) (nil _)
  refine go_fin [(L, lawFr (pb w.params b1 b2) { f with group := .int g tg, refused := .bool r, handed := .ref H, before := .bytes (byteArr os) t } 13)] 6 [0] (.pure (.done .next)) [0] [(L, lawFr (pb w.params b1 b2) { f with group := .int g tg, refused := .bool r, handed := .ref H, before := .bytes (byteArr os) t } 13)] 0 0 (byteArr os = byteArr os ∧ True) (by simpa using hL2) (by simp)
    (by clear hQ hL hL1 hled hfe hg hf_refused hf_group hL2 H1; rcases hgr with ⟨rfl, rfl⟩ | ⟨rfl, rfl⟩ | ⟨rfl, rfl⟩ | ⟨rfl, rfl⟩ | ⟨rfl, rfl⟩ | ⟨rfl, rfl⟩ | ⟨rfl, rfl⟩ | ⟨rfl, rfl⟩ | ⟨rfl, rfl⟩ | ⟨rfl, rfl⟩ <;> cases b2 <;> kernel_rfl) ⟨rfl, trivial⟩ (by decide) ?_
  intro h3 p3 H3
  refine base_done' (hQ _ _ (K1.trans (K2.trans (H3.kpM _ fun b hb => .inr (by rw [List.mem_singleton.mp (show b ∈ [L] from hb)]; exact ⟨_, hL2, by simp⟩)))))
theorem st_check2 (hh : A.handled = none) {L ca ck cm : Addr} {f : LF} {t t2 : Tok} {b : Array UInt8} (hlo : 524 ≤ L) (F : Fix (pb w.params b1 b2) s.heap) (hf_data : f.data = .bytes b t) (hf_told : f.told = .bytes b t2)
    (hL : s.heap.get? L = some (lawFr (pb w.params b1 b2) f 13))
    (hQ : ∀ h' tk, Kp [] s.heap h' → Q .next { s with heap := h', toks := tk }) :
    wpAny (model prg (wb w b1 b2)) A (execs [stmtAt dB 14] (lawEnv L ca ck cm)) Q E s := by
  have hfe : f = { f with data := .bytes b t, told := .bytes b t2 } := by cases f; cases hf_data; cases hf_told; rfl
  have hL1 : s.heap.get? L = some (lawFr (pb w.params b1 b2) { f with data := .bytes b t, told := .bytes b t2 } 13) := by rw [hL]; exact congrArg some (congrArg (fun f => lawFr (pb w.params b1 b2) f 13) hfe)
  refine wpAny_execs1 (any_fin hh [(L, lawFr (pb w.params b1 b2) { f with data := .bytes b t, told := .bytes b t2 } 13), (3, ob3 (pb w.params b1 b2)), (0, ob0 (pb w.params b1 b2))] 24 [0, 0, 1, 2, 0, 1, 2] (.done .next) [0, 1, 2]
    [(L, lawFr (pb w.params b1 b2) { f with data := .bytes b t, told := .bytes b t2 } 13), (3, ob3 (pb w.params b1 b2)), (0, ob0 (pb w.params b1 b2))] 0 0 (b = b ∧ True) ?_ (nd_fix (ws := [L]) (cs := [3, 0]) (by simp) (by simpa using hlo)) (fun _ _ _ _ _ => by clear hQ; cases b2 <;> kernel_rfl) ⟨rfl, trivial⟩ (by decide) ?_)
  · simp only [List.mem_cons, List.not_mem_nil, or_false, forall_eq_or_imp, forall_eq]
    exact ⟨hL1, F.get 2, F.get 0⟩
  intro h1 H1
  refine hQ _ _ (H1.kpM _ fun b hb => ?_)
  have : b ∈ [L, 3, 0] := hb
  simp only [List.mem_cons, List.not_mem_nil, or_false] at this
  rcases this with g | g | g
  · exact .inr (by rw [g]; exact ⟨_, hL1, by simp⟩)
  · exact .inr (by rw [g]; exact ⟨_, F.get 2, by simp⟩)
  · exact .inr (by rw [g]; exact ⟨_, F.get 0, by simp⟩)
theorem st_done (hh : A.handled = none) {L ca ck cm D : Addr} {f : LF} {kd am g : Int} {tk ta tg : Tok} {K : Addr} {xs : Array Value} {nd : Nat} (hnd : [L, D, ck, cm].Nodup) (hf_kind : f.kind = .int kd tk) (hf_group : f.group = .int g tg) (hf_done : f.done = .ref D)
    (hL : s.heap.get? L = some (lawFr (pb w.params b1 b2) f 13)) (hD : s.heap.get? D = some (lstO xs nd)) (hck : s.heap.get? ck = some (cellO (some (.ref K)))) (hcm : s.heap.get? cm = some (cellO (some (.int am ta)))) (hz : xs.size ≤ sizeLine)
    (hQ : ∀ h' tk', Kp [D] s.heap h' → h'.get? D = some (lstO (xs.push (.ref s.heap.objs.size)) (nd + 1)) → h'.get? s.heap.objs.size = some (tupO #[.int kd tk, .ref K, .int am ta, .int g tg]) → Q .next { s with heap := h', toks := tk' }) :
    wpAny (model prg (wb w b1 b2)) A (execs [stmtAt dB 15] (lawEnv L ca ck cm)) Q E s := by
  have hfe : f = { f with kind := .int kd tk, group := .int g tg, done := .ref D } := by cases f; cases hf_kind; cases hf_group; cases hf_done; rfl
  have hL1 : s.heap.get? L = some (lawFr (pb w.params b1 b2) { f with kind := .int kd tk, group := .int g tg, done := .ref D } 13) := by rw [hL]; exact congrArg some (congrArg (fun f => lawFr (pb w.params b1 b2) f 13) hfe)
  refine wpAny_execs1 (any_fin hh [(L, lawFr (pb w.params b1 b2) { f with kind := .int kd tk, group := .int g tg, done := .ref D } 13), (D, lstO xs nd), (ck, cellO (some (.ref K))), (cm, cellO (some (.int am ta)))] 22 [0, 1, 1, 1, 1, 0, 2, 3, 0, 2] (.done .next) [1, 2, 3, 4, 0]
    [(L, lawFr (pb w.params b1 b2) { f with kind := .int kd tk, group := .int g tg, done := .ref D } 13), (D, lstO (xs.push (.ref s.heap.objs.size)) (nd + 1)), (ck, cellO (some (.ref K))), (cm, cellO (some (.int am ta))), (s.heap.objs.size, tupO #[.int kd tk, .ref K, .int am ta, .int g tg])] 1 0 ((Value.type "list" = .type "list" ∧ xs.size ≤ sizeLine) ∧ True) ?_ hnd (fun _ _ _ _ _ => by clear hQ; kernel_rfl) ⟨⟨rfl, hz⟩, trivial⟩ (by decide) ?_)
  · simp only [List.mem_cons, List.not_mem_nil, or_false, forall_eq_or_imp, forall_eq]
    exact ⟨hL1, hD, hck, hcm⟩
  intro h1 H1
  refine hQ _ _ (H1.kpM _ fun b hb => ?_) (H1.at 1 rfl) (H1.at 4 rfl)
  have : b ∈ [L, D, ck, cm] := hb
  simp only [List.mem_cons, List.not_mem_nil, or_false] at this
  rcases this with g | g | g | g
  · exact .inr (by rw [g]; exact ⟨_, hL1, by simp⟩)
  · exact .inl (by rw [g]; simp)
  · exact .inr (by rw [g]; exact ⟨_, hck, by simp⟩)
  · exact .inr (by rw [g]; exact ⟨_, hcm, by simp⟩)
end
end Mine
end

section
open PySem PySem.W PySem.W.X PySem.Builtin PyProof.Rows
set_option maxRecDepth 100000
set_option linter.unusedVariables false
set_option linter.unusedSimpArgs false
namespace Mine
structure Deed where
  kd : Int
  ks : List Int
  am : Int
  g : Int
def cutK (kd : Int) (ks : List Int) : List Int := if kd = 0 then ks.take 1 else ks
def grpOf (kd a : Int) : Int := if kd = 3 then Int.fmod (Int.fdiv a 9) 10 - 3 else 1
def deedOf (x : Int) : Deed := ⟨Int.fmod x 4, cutK (Int.fmod x 4) (keyL (Int.fdiv x 4)), Int.fmod (Int.fdiv x 4) 9, grpOf (Int.fmod x 4) (Int.fdiv x 4)⟩
theorem fmod4 (x : Int) : Int.fmod x 4 = 0 ∨ Int.fmod x 4 = 1 ∨ Int.fmod x 4 = 2 ∨ Int.fmod x 4 = 3 := by
  rw [Int.fmod_eq_emod_of_nonneg _ (by decide)]; omega
theorem keyL_len (x : Int) : (keyL x).length ≤ 5 ∧ keyL x ≠ [] := by
  rcases fmod5 x with e | e | e | e | e <;> simp [keyL, e, List.range_succ]
theorem keyL_oct (x : Int) : ∀ n ∈ keyL x, 0 ≤ n ∧ n < 256 := by
  intro n hn
  simp only [keyL, List.mem_map] at hn
  obtain ⟨k, _, rfl⟩ := hn
  rw [keyV, Int.fmod_eq_emod_of_nonneg _ (by decide)]
  omega
theorem lst_eta {h : Heap} {a : Addr} {vs : Array Value} {n : Nat} {l : List Value} (e : h.get? a = some (lstO vs n)) (hl : vs.toList = l) : h.get? a = some (lstO l.toArray n) := by
  rw [← hl, Array.toArray_toList]; exact e
section
variable {w : World} {b1 b2 : Bool} {A : Around} {s : Shared} {Q : Flow → Shared → Prop} {E : Value → Shared → Prop}
theorem st_cut (hh : A.handled = none) {L ca ck cm K : Addr} {f : LF} {n : Nat} {kd : Int} {t : Tok} {ks : List Int} (hn : n = 9 ∨ n = 13) (hnd : [L, ck, K].Nodup) (hkd : kd = 0 ∨ kd = 1 ∨ kd = 2 ∨ kd = 3) (hf_kind : f.kind = .int kd t)
    (hL : s.heap.get? L = some (lawFr (pb w.params b1 b2) f n)) (hck : s.heap.get? ck = some (cellO (some (.ref K)))) (hK : KeyIs s.heap K ks) (hk0 : ks ≠ []) (hk5 : ks.length ≤ 5) (hK5 : 524 ≤ K) (hsz : 524 ≤ s.heap.objs.size)
    (hQ : ∀ h' tk K', Kp [ck] s.heap h' → h'.get? ck = some (cellO (some (.ref K'))) → KeyIs h' K' (cutK kd ks) → 524 ≤ K' → (K' = K ∨ s.heap.get? K' = none) → Q .next { s with heap := h', toks := tk }) :
    wpAny (model prg (wb w b1 b2)) A (execs [stmtAt dB 5] (lawEnv L ca ck cm)) Q E s := by
  have hcK : K ∉ [ck] := nd_out hnd 2 [1] rfl
  have keep : ∀ {h' : Heap}, Kp [] s.heap h' → h'.get? ck = some (cellO (some (.ref K))) ∧ KeyIs h' K ks := fun K1 => ⟨K1 _ _ hck (by simp), by
    obtain ⟨vs, nn, e1, e2⟩ := hK
    exact ⟨vs, nn, K1 _ _ e1 (by simp), e2⟩⟩
  rcases hkd with rfl | rfl | rfl | rfl
  · obtain ⟨vs, nn, e1, e2⟩ := hK
    generalize hvl : vs.toList = vl at e2
    have e1 := lst_eta e1 hvl
    have fin : ∀ k0 u0 ks', ks = k0 :: ks' → ∀ (h' : Heap) tk, Kp [ck] s.heap h' → h'.get? ck = some (cellO (some (.ref (s.heap.objs.size + 1)))) → h'.get? (s.heap.objs.size + 1) = some (lstO #[.int k0 u0] 0) → Q .next { s with heap := h', toks := tk } := fun k0 u0 ks' e h' tk a1 a2 a3 =>
      hQ h' tk _ a1 a2 ⟨_, _, a3, by rw [e]; exact .cons _ _ .nil⟩ (le_ad hsz 1) (.inr (none_ad 1))
    cases e2 with
    | nil => exact absurd rfl hk0
    | cons k0 u0 e2 =>
    cases e2 with
    | nil => exact st_cut_0_1 hh hn hnd hf_kind hL hck e1 fun h' tk _ a1 a2 a3 => fin _ _ _ rfl h' tk a1 a2 a3
    | cons k1 u1 e2 =>
    cases e2 with
    | nil => exact st_cut_0_2 hh hn hnd hf_kind hL hck e1 fun h' tk _ a1 a2 a3 => fin _ _ _ rfl h' tk a1 a2 a3
    | cons k2 u2 e2 =>
    cases e2 with
    | nil => exact st_cut_0_3 hh hn hnd hf_kind hL hck e1 fun h' tk _ a1 a2 a3 => fin _ _ _ rfl h' tk a1 a2 a3
    | cons k3 u3 e2 =>
    cases e2 with
    | nil => exact st_cut_0_4 hh hn hnd hf_kind hL hck e1 fun h' tk _ a1 a2 a3 => fin _ _ _ rfl h' tk a1 a2 a3
    | cons k4 u4 e2 =>
    cases e2 with
    | nil => exact st_cut_0_5 hh hn hnd hf_kind hL hck e1 fun h' tk _ a1 a2 a3 => fin _ _ _ rfl h' tk a1 a2 a3
    | cons k5 u5 e2 => exfalso; simp only [List.length_cons] at hk5; omega
  · refine st_cut_1 hh hn hf_kind hL fun h' tk _ a1 => ?_
    exact hQ h' tk K (a1.mono fun _ h => by cases h) (keep a1).1 (keep a1).2 hK5 (.inl rfl)
  · refine st_cut_2 hh hn hf_kind hL fun h' tk _ a1 => ?_
    exact hQ h' tk K (a1.mono fun _ h => by cases h) (keep a1).1 (keep a1).2 hK5 (.inl rfl)
  · refine st_cut_3 hh hn hf_kind hL fun h' tk _ a1 => ?_
    exact hQ h' tk K (a1.mono fun _ h => by cases h) (keep a1).1 (keep a1).2 hK5 (.inl rfl)
theorem st_grp (hh : A.handled = none) {L ca ck cm : Addr} {f : LF} {n : Nat} {kd a : Int} {t u tg : Tok} (hn : n = 9 ∨ n = 13) (hnd : [L, ca].Nodup) (hkd : kd = 0 ∨ kd = 1 ∨ kd = 2 ∨ kd = 3) (hf_kind : f.kind = .int kd t) (hf_group : f.group = .int 1 tg)
    (hL : s.heap.get? L = some (lawFr (pb w.params b1 b2) f n)) (hca : s.heap.get? ca = some (cellO (some (.int a u))))
    (hQ : ∀ h' tk (t9 tu : Tok) n', (n' = 9 ∨ n' = 13) → Kp [L] s.heap h' → h'.get? L = some (lawFr (pb w.params b1 b2) { f with t9 := t9, group := .int (grpOf kd a) tu } n') → Q .next { s with heap := h', toks := tk }) :
    wpAny (model prg (wb w b1 b2)) A (execs [stmtAt dB 6] (lawEnv L ca ck cm)) Q E s := by
  have hfe : f = { f with t9 := f.t9, group := .int 1 tg } := by cases f; cases hf_group; rfl
  rcases hkd with rfl | rfl | rfl | rfl
  · exact st_group3_0 hh hn hf_kind hL fun h' tk _ a1 => hQ h' tk f.t9 tg n hn (a1.mono fun _ h => by cases h) ((a1 _ _ hL (by simp)).trans (congrArg some (congrArg (fun z => lawFr (pb w.params b1 b2) z n) hfe)))
  · exact st_group3_1 hh hn hf_kind hL fun h' tk _ a1 => hQ h' tk f.t9 tg n hn (a1.mono fun _ h => by cases h) ((a1 _ _ hL (by simp)).trans (congrArg some (congrArg (fun z => lawFr (pb w.params b1 b2) z n) hfe)))
  · exact st_group3_2 hh hn hf_kind hL fun h' tk _ a1 => hQ h' tk f.t9 tg n hn (a1.mono fun _ h => by cases h) ((a1 _ _ hL (by simp)).trans (congrArg some (congrArg (fun z => lawFr (pb w.params b1 b2) z n) hfe)))
  · exact st_group3 hh hn hnd hf_kind hL hca fun h' tk t9 tu n' hn' a1 a2 => hQ h' tk t9 tu n' hn' a1 a2
/-- the addresses the law writes to behind its loops -/
def MM (D It : Addr) : List Addr := [525, 526, 527, 528, 319, 329, D, It]
end
def DeedAt (h : Heap) (N : Addr → Prop) (v : Value) (d : Deed) : Prop := ∃ T K tk ta tg, v = .ref T ∧ N T ∧ N K ∧ 524 ≤ K ∧ h.get? T = some (tupO #[.int d.kd tk, .ref K, .int d.am ta, .int d.g tg]) ∧ KeyIs h K d.ks
theorem KeyIs.keep {M : List Addr} {h h' : Heap} {K : Addr} {ks : List Int} (x : KeyIs h K ks) (k : Kp M h h') (hK : K ∉ M) : KeyIs h' K ks := by
  obtain ⟨vs, n, e1, e2⟩ := x
  exact ⟨vs, n, k _ _ e1 hK, e2⟩
theorem DeedAt.keep {M : List Addr} {h h' : Heap} {v : Value} {d : Deed} (x : DeedAt h (· ∉ M) v d) (k : Kp M h h') : DeedAt h' (· ∉ M) v d := by
  obtain ⟨T, K, tk, ta, tg, e1, e2, e3, e6, e4, e5⟩ := x
  exact ⟨T, K, tk, ta, tg, e1, e2, e3, e6, k _ _ e4 e2, e5.keep k e3⟩
inductive DoneAre (h : Heap) (N : Addr → Prop) : List Value → List Deed → Prop
  | nil : DoneAre h N [] []
  | cons {v : Value} {d : Deed} {vs : List Value} {ds : List Deed} : DeedAt h N v d → DoneAre h N vs ds → DoneAre h N (v :: vs) (d :: ds)
theorem DoneAre.keep {M : List Addr} {h h' : Heap} (k : Kp M h h') : ∀ {vs : List Value} {ds : List Deed}, DoneAre h (· ∉ M) vs ds → DoneAre h' (· ∉ M) vs ds
  | _, _, .nil => .nil
  | _, _, .cons a b => .cons (a.keep k) (b.keep k)
theorem DoneAre.push {h : Heap} {N : Addr → Prop} {v : Value} {d : Deed} (x : DeedAt h N v d) : ∀ {vs : List Value} {ds : List Deed}, DoneAre h N vs ds → DoneAre h N (vs ++ [v]) (ds ++ [d])
  | _, _, .nil => .cons x .nil
  | _, _, .cons a b => .cons a (DoneAre.push x b)
theorem DoneAre.len {h : Heap} {N : Addr → Prop} : ∀ {vs : List Value} {ds : List Deed}, DoneAre h N vs ds → vs.length = ds.length
  | _, _, .nil => rfl
  | _, _, .cons _ b => by simp [b.len]
/-- what holds between the deeds -/
structure Inv (P : Params) (h : Heap) (D It : Addr) (f : LF) (n : Nat) (os : List Int) (ds : List Deed) : Prop where
  fix : Fix P h
  t1 : ∃ tb, h.get? 319 = some (tabO (genPos xoneGen) tb)
  t2 : ∃ tb, h.get? 329 = some (tabO (genPos xmanyGen) tb)
  fr : h.get? 525 = some (lawFr P f n)
  c1 : ∃ v, h.get? 526 = some (cellO v)
  c2 : ∃ v, h.get? 527 = some (cellO v)
  c3 : ∃ v, h.get? 528 = some (cellO v)
  rows : ∃ R xs nr, f.rows = .ref R ∧ h.get? R = some (lstO xs nr) ∧ 524 ≤ R ∧ R ∉ MM D It ∧ RowsAre h xs.toList os ∧ ∀ (i : Nat) r, xs[i]? = some (.ref r) → r ∉ MM D It
  data : ∃ t, f.data = .bytes (byteArr os) t
  done : f.done = .ref D ∧ ∃ vs nd, h.get? D = some (lstO vs nd) ∧ DoneAre h (· ∉ MM D It) vs.toList ds
  it : ∃ o, h.get? It = some o
  d5 : 524 ≤ D
  i5 : 524 ≤ It
  dIt : D ≠ It
  itc : ∀ o, h.get? It = some o → o.cls = .type "list_iterator"
  len : os.length ≤ 8
  oct : ∀ o ∈ os, 0 ≤ o ∧ o < 256
/-- what holds behind the first ten statements of a deed -/
structure Mid (P : Params) (h : Heap) (D It H K : Addr) (f : LF) (n : Nat) (os : List Int) (ds : List Deed) (d : Deed) : Prop where
  inv : Inv P h D It f n os ds
  kind : ∃ t, f.kind = .int d.kd t
  group : ∃ t, f.group = .int d.g t
  before : ∃ t, f.before = .bytes (byteArr os) t
  handed : f.handed = .ref H
  refused : f.refused = .bool false
  key : h.get? 527 = some (cellO (some (.ref K)))
  keyIs : KeyIs h K d.ks
  am : ∃ t, h.get? 528 = some (cellO (some (.int d.am t)))
  hH : h.get? H = some (BA.baO (byteArr os))
  h5 : 524 ≤ H
  hM : H ∉ MM D It
  k5 : 524 ≤ K
  kM : K ∉ MM D It
  krow : ∀ R xs nr, f.rows = .ref R → h.get? R = some (lstO xs nr) → R ≠ K ∧ ∀ (i : Nat) r, xs[i]? = some (.ref r) → r ≠ K
end Mine
end

section
open PySem PySem.W PySem.W.X PySem.Builtin PyProof.Rows
set_option maxRecDepth 100000
set_option linter.unusedVariables false
set_option linter.unusedSimpArgs false
namespace Mine
def Ex (M : List Addr) (h : Heap) : Prop := ∀ a ∈ M, ∃ o, h.get? a = some o
theorem Ex.step {M N : List Addr} {h h' : Heap} (x : Ex M h) (K : Kp N h h') (hN : ∀ a ∈ N, ∃ o, h'.get? a = some o) : Ex M h' := fun a ha => by
  by_cases hm : a ∈ N
  · exact hN a hm
  · obtain ⟨o, e⟩ := x a ha
    exact ⟨o, K _ _ e hm⟩
theorem Ex.one {M : List Addr} {h h' : Heap} {a : Addr} {o : Obj} (x : Ex M h) (K : Kp [a] h h') (e : h'.get? a = some o) : Ex M h' := x.step K fun b hb => ⟨o, by rw [List.mem_singleton.mp hb]; exact e⟩
theorem Ex.nn {M : List Addr} {h h' : Heap} {b : Addr} (x : Ex M h') (K : Kp M h h') (hb : h'.get? b = none) : h.get? b = none := by
  cases e : h.get? b with
  | none => rfl
  | some o =>
    by_cases hm : b ∈ M
    · obtain ⟨o', e'⟩ := x b hm
      rw [hb] at e'; cases e'
    · rw [K _ _ e hm] at hb; cases hb
theorem Ex.not {M : List Addr} {h : Heap} {b : Addr} (x : Ex M h) (hb : h.get? b = none) : b ∉ M := fun hm => by
  obtain ⟨o, e⟩ := x b hm
  rw [hb] at e; cases e
section
variable {P : Params} {h h' : Heap} {D It : Addr} {f : LF} {n : Nat} {os : List Int} {ds : List Deed}
theorem Inv.ex (I : Inv P h D It f n os ds) : Ex (MM D It) h := by
  intro a ha
  simp only [MM, List.mem_cons, List.not_mem_nil, or_false] at ha
  obtain ⟨_, c1⟩ := I.c1; obtain ⟨_, c2⟩ := I.c2; obtain ⟨_, c3⟩ := I.c3; obtain ⟨_, t1⟩ := I.t1; obtain ⟨_, t2⟩ := I.t2; obtain ⟨_, _, _, d, _⟩ := I.done; obtain ⟨_, i⟩ := I.it
  rcases ha with rfl | rfl | rfl | rfl | rfl | rfl | rfl | rfl
  · exact ⟨_, I.fr⟩
  · exact ⟨_, c1⟩
  · exact ⟨_, c2⟩
  · exact ⟨_, c3⟩
  · exact ⟨_, t1⟩
  · exact ⟨_, t2⟩
  · exact ⟨_, d⟩
  · exact ⟨_, i⟩
theorem Inv.fresh (I : Inv P h D It f n os ds) {a : Addr} (ha : h.get? a = none) : a ∉ MM D It := fun hm => by
  obtain ⟨o, e⟩ := I.ex a hm
  rw [ha] at e; cases e
theorem mm_fix (D It : Addr) (hD : 524 ≤ D) (hI : 524 ≤ It) : ∀ a ∈ ([0, 2, 3, 4, 323, 333, 343, 324, 334, 344, 326, 336, 346, 448, 449, 518, 522, 523] : List Nat), a ∉ MM D It := by
  intro a ha hm
  have : ∀ a ∈ ([0, 2, 3, 4, 323, 333, 343, 324, 334, 344, 326, 336, 346, 448, 449, 518, 522, 523] : List Nat), a < 524 ∧ a ≠ 319 ∧ a ≠ 329 := by decide
  obtain ⟨h1, h2, h3⟩ := this a ha
  simp only [MM, List.mem_cons, List.not_mem_nil, or_false] at hm
  rcases hm with g | g | g | g | g | g | g | g
  · rw [g] at h1; exact absurd h1 (by decide)
  · rw [g] at h1; exact absurd h1 (by decide)
  · rw [g] at h1; exact absurd h1 (by decide)
  · rw [g] at h1; exact absurd h1 (by decide)
  · exact h2 g
  · exact h3 g
  · rw [g] at h1; exact absurd h1 (Nat.not_lt.mpr hD)
  · rw [g] at h1; exact absurd h1 (Nat.not_lt.mpr hI)
theorem Inv.ne (I : Inv P h D It f n os ds) : D ≠ 525 ∧ D ≠ 526 ∧ D ≠ 527 ∧ D ≠ 528 ∧ It ≠ 525 ∧ It ≠ 526 ∧ It ≠ 527 ∧ It ≠ 528 := by
  obtain ⟨_, c1⟩ := I.c1; obtain ⟨_, c2⟩ := I.c2; obtain ⟨_, c3⟩ := I.c3; obtain ⟨_, _, _, d, _⟩ := I.done; obtain ⟨_, i⟩ := I.it
  have ic := I.itc _ i
  refine ⟨?_, ?_, ?_, ?_, ?_, ?_, ?_, ?_⟩
  · rintro rfl; rw [I.fr] at d; exact absurd (congrArg Obj.cls (Option.some.inj d)) (by simp [lawFr])
  · rintro rfl; rw [c1] at d; exact absurd (congrArg Obj.cls (Option.some.inj d)) (by simp)
  · rintro rfl; rw [c2] at d; exact absurd (congrArg Obj.cls (Option.some.inj d)) (by simp)
  · rintro rfl; rw [c3] at d; exact absurd (congrArg Obj.cls (Option.some.inj d)) (by simp)
  · rintro rfl; rw [I.fr] at i; rw [← Option.some.inj i] at ic; exact absurd ic (by simp [lawFr])
  · rintro rfl; rw [c1] at i; rw [← Option.some.inj i] at ic; exact absurd ic (by simp)
  · rintro rfl; rw [c2] at i; rw [← Option.some.inj i] at ic; exact absurd ic (by simp)
  · rintro rfl; rw [c3] at i; rw [← Option.some.inj i] at ic; exact absurd ic (by simp)
/-- the invariant in a later heap, with the frame told anew -/
theorem Inv.step (I : Inv P h D It f n os ds) {f' : LF} {n' : Nat} (K : Kp (MM D It) h h') (e1 : h'.get? 525 = some (lawFr P f' n')) (c1 : ∃ v, h'.get? 526 = some (cellO v)) (c2 : ∃ v, h'.get? 527 = some (cellO v)) (c3 : ∃ v, h'.get? 528 = some (cellO v))
    (t1 : ∃ tb, h'.get? 319 = some (tabO (genPos xoneGen) tb)) (t2 : ∃ tb, h'.get? 329 = some (tabO (genPos xmanyGen) tb)) (hD : h'.get? D = h.get? D) (hI : h'.get? It = h.get? It) (g1 : f'.rows = f.rows) (g2 : f'.data = f.data) (g3 : f'.done = f.done) : Inv P h' D It f' n' os ds where
  fix := I.fix.keepX K (mm_fix D It I.d5 I.i5)
  t1 := t1
  t2 := t2
  fr := e1
  c1 := c1
  c2 := c2
  c3 := c3
  rows := by
    obtain ⟨R, xs, nr, r1, r2, r3, r4, r5, r6⟩ := I.rows
    refine ⟨R, xs, nr, g1.trans r1, K _ _ r2 r4, r3, r4, ⟨r5.1, fun i o e => ?_⟩, r6⟩
    obtain ⟨r, a1, a2, a3⟩ := r5.2 i o e
    exact ⟨r, a1, a2, a3.keep K (r6 i r (by rw [← Array.getElem?_toList]; exact a1))⟩
  data := by rw [g2]; exact I.data
  done := by
    obtain ⟨d1, vs, nd, d2, d3⟩ := I.done
    exact ⟨g3.trans d1, vs, nd, hD.trans d2, d3.keep K⟩
  it := by rw [hI]; exact I.it
  d5 := I.d5
  i5 := I.i5
  dIt := I.dIt
  itc := by rw [hI]; exact I.itc
  len := I.len
  oct := I.oct
end
section
variable {w : World} {b1 b2 : Bool} {A : Around} {s : Shared} {Q : Flow → Shared → Prop} {E : Value → Shared → Prop}
abbrev LE : Env := lawEnv 525 526 527 528
theorem partA (hh : A.handled = none) {D It : Addr} {f : LF} {n : Nat} {os : List Int} {ds : List Deed} {x : Int} {t : Tok} (I : Inv (pb w.params b1 b2) s.heap D It f n os ds) (hn : n = 7 ∨ n = 13) (hx : f.x = .int x t)
    (hQ : ∀ h' tk f' n' H K, (n' = 12 ∨ n' = 13) → Kp (MM D It) s.heap h' → Mid (pb w.params b1 b2) h' D It H K f' n' os ds (deedOf x) → h'.get? It = s.heap.get? It → f'.first = f.first → Q .next { s with heap := h', toks := tk }) :
    wpF (model prg (wb w b1 b2)) A (execs (dB.take 10) LE) Q E s := by
  show wpF _ _ (execs [stmtAt dB 0, stmtAt dB 1, stmtAt dB 2, stmtAt dB 3, stmtAt dB 4, stmtAt dB 5, stmtAt dB 6, stmtAt dB 7, stmtAt dB 8, stmtAt dB 9] _) _ _ _
  obtain ⟨v1, hc1⟩ := I.c1
  obtain ⟨v2, hc2⟩ := I.c2
  obtain ⟨v3, hc3⟩ := I.c3
  obtain ⟨R, xs, nr, r1, r2, r3, r4, r5, r6⟩ := I.rows
  obtain ⟨td, hdat⟩ := I.data
  obtain ⟨d1, vs, nd, d2, d3⟩ := I.done
  obtain ⟨nD1, nD2, nD3, nD4, nI1, nI2, nI3, nI4⟩ := I.ne
  obtain ⟨oIt, hIt⟩ := I.it
  have m1 : ∀ y ∈ [(525 : Addr)], y ∈ MM D It := by simp [MM]
  have m2 : ∀ y ∈ [(526 : Addr)], y ∈ MM D It := by simp [MM]
  have m3 : ∀ y ∈ [(527 : Addr)], y ∈ MM D It := by simp [MM]
  have m4 : ∀ y ∈ [(528 : Addr)], y ∈ MM D It := by simp [MM]
  -- 0, 1: kind, arg
  refine wpF_execs_cons (.of (st_kind hh hn hx I.fr ?_))
  intro h1 k1 t8 u8 n1 hn1 K1 e1
  refine wpF_execs_cons (.of (st_arg hh hn1 (by decide) (f := { f with t8 := t8, kind := .int (Int.fmod x 4) u8 }) hx e1 (K1 _ _ hc1 (by decide)) ?_))
  intro h2 k2 u1 K2 a1
  have L2 := K2 _ _ e1 (by decide)
  have K02 : Kp (MM D It) s.heap h2 := (K1.mono m1).trans (K2.mono m2)
  have F2 := I.fix.keepX K02 (mm_fix D It I.d5 I.i5)
  -- 2: key
  refine wpF_execs_cons (.of (st_key hh (by decide) (by decide) F2 a1 (K2 _ _ (K1 _ _ hc2 (by decide)) (by decide)) ?_))
  intro h3 k3 Ky K3 b2' hKn hK5 hKi
  have L3 := K3 _ _ L2 (by decide)
  have a3 := K3 _ _ a1 (by decide)
  have K03 := K02.trans (K3.mono m3)
  have X3 : Ex (MM D It) h3 := ((I.ex.one K1 e1).one K2 a1).one K3 b2'
  have X2 : Ex (MM D It) h2 := (I.ex.one K1 e1).one K2 a1
  have hKs : s.heap.get? Ky = none := X2.nn K02 hKn
  have hKM : Ky ∉ MM D It := X2.not hKn
  have hsz : 524 ≤ s.heap.objs.size := Nat.le_of_lt (Nat.lt_of_le_of_lt (by decide) (Heap.lt_size I.fr))
  have hge : ∀ {h : Heap} {M : List Addr} {a : Addr}, Kp M s.heap h → (∀ a ∈ M, ∃ o, h.get? a = some o) → h.get? a = none → s.heap.get? a = none := fun K x e => Ex.nn x K e
  -- 3, 4: amount, group
  refine wpF_execs_cons (.of (st_amount hh hn1 (by decide) L3 a3 (K3 _ _ (K2 _ _ (K1 _ _ hc3 (by decide)) (by decide)) (by decide)) ?_))
  intro h4 k4 u4 K4 c4
  have L4 := K4 _ _ L3 (by decide)
  have a4 := K4 _ _ a3 (by decide)
  have b4 := K4 _ _ b2' (by decide)
  have K04 := K03.trans (K4.mono m4)
  have X4 := X3.one K4 c4
  refine wpF_execs_cons (.of (st_group hh hn1 L4 ?_))
  intro h5 k5 t9 u9 n5 hn5 K5 e5
  have a5 := K5 _ _ a4 (by decide)
  have b5 := K5 _ _ b4 (by decide)
  have c5 := K5 _ _ c4 (by decide)
  have K05 := K04.trans (K5.mono m1)
  have X5 := X4.one K5 e5
  have hKM' : Ky ∉ ([525, 526, 527, 528] : List Addr) := fun hm => hKM (by
    simp only [MM, List.mem_cons, List.not_mem_nil, or_false] at hm ⊢
    rcases hm with g | g | g | g <;> simp [g])
  have hKi5 : KeyIs h5 Ky (keyL (Int.fdiv x 4)) := (hKi.keep (K4.mono (M' := [525, 526, 527, 528]) (by simp)) hKM').keep (K5.mono (by simp)) hKM'
  -- 5: the cut
  have hkl := keyL_len (Int.fdiv x 4)
  have h5sz : 524 ≤ h5.objs.size := Nat.le_of_lt (Nat.lt_of_le_of_lt (by decide) (Heap.lt_size e5))
  refine wpF_execs_cons (.of (st_cut hh hn5 (by simp only [List.nodup_cons, List.mem_cons, List.not_mem_nil, or_false, not_false_eq_true, List.nodup_nil, and_true]; exact ⟨fun h => by rcases h with h | h; exact absurd h (by decide); exact hKM' (by simp [← h]), fun h => hKM' (by simp [← h])⟩) (fmod4 x) (f := { f with t8 := t8, kind := .int (Int.fmod x 4) u8, t9 := t9, group := .int 1 u9 }) rfl e5 b5 hKi5 hkl.2 hkl.1 hK5 h5sz ?_))
  intro h6 k6 K' K6 b6 hKi6 hK'5 hK'
  have L6 := K6 _ _ e5 (by decide)
  have a6 := K6 _ _ a5 (by decide)
  have c6 := K6 _ _ c5 (by decide)
  have K06 := K05.trans (K6.mono m3)
  have X6 := X5.one K6 b6
  have hK's : s.heap.get? K' = none := by
    rcases hK' with rfl | e
    · exact hKs
    · exact X5.nn K05 e
  have hK'M : K' ∉ MM D It := I.fresh hK's
  -- 6: the group
  refine wpF_execs_cons (.of (st_grp hh hn5 (by decide) (fmod4 x) (f := { f with t8 := t8, kind := .int (Int.fmod x 4) u8, t9 := t9, group := .int 1 u9 }) rfl rfl L6 a6 ?_))
  intro h7 k7 t9' u9' n7 hn7 K7 e7
  have a7 := K7 _ _ a6 (by decide)
  have b7 := K7 _ _ b6 (by decide)
  have c7 := K7 _ _ c6 (by decide)
  have K07 := K06.trans (K7.mono m1)
  have X7 := X6.one K7 e7
  -- 7: before
  refine wpF_execs_cons (.of (st_before hh hn7 (f := { f with t8 := t8, kind := .int (Int.fmod x 4) u8, t9 := t9', group := .int (grpOf (Int.fmod x 4) (Int.fdiv x 4)) u9' }) hdat e7 ?_))
  intro h8 k8 t10 u10 n8 hn8 K8 e8
  have K08 := K07.trans (K8.mono m1)
  have X8 := X7.one K8 e8
  have F8 := I.fix.keepX K08 (mm_fix D It I.d5 I.i5)
  -- 8: handed
  refine wpF_execs_cons (st_handed hh hn8 (by decide) F8 (b := byteArr os) (t := td) (by rw [byteArr_size]; exact Nat.le_trans I.len (by decide +kernel)) (f := { f with t8 := t8, kind := .int (Int.fmod x 4) u8, t9 := t9', group := .int (grpOf (Int.fmod x 4) (Int.fdiv x 4)) u9', t10 := t10, before := .bytes (byteArr os) td }) hdat e8 ?_)
  intro h9 k9 t11 n9 hn9 K9 e9 hH9
  have K09 := K08.trans (K9.mono m1)
  have X9 := X8.one K9 e9
  have hHs : s.heap.get? h8.objs.size = none := X8.nn K08 (none_of_ge (Nat.le_refl _))
  have hHM : h8.objs.size ∉ MM D It := I.fresh hHs
  -- 9: refused
  refine wpF_execs_cons (.of (st_refused hh hn9 e9 ?_))
  intro h10 k10 t12 u12 n10 hn10 K10 e10
  have K010 := K09.trans (K10.mono m1)
  have old : ∀ {a : Addr} {o : Obj}, h7.get? a = some o → a ≠ 525 → h10.get? a = some o := fun e hne => K10 _ _ (K9 _ _ (K8 _ _ e (by simpa using hne)) (by simpa using hne)) (by simpa using hne)
  have s7 : ∀ {a : Addr} {o : Obj}, s.heap.get? a = some o → a ≠ 525 → a ≠ 526 → a ≠ 527 → a ≠ 528 → h10.get? a = some o := fun e g1 g2 g3 g4 =>
    old (K7 _ _ (K6 _ _ (K5 _ _ (K4 _ _ (K3 _ _ (K2 _ _ (K1 _ _ e (by simpa using g1)) (by simpa using g2)) (by simpa using g3)) (by simpa using g4)) (by simpa using g1)) (by simpa using g3)) (by simpa using g1)) g1
  obtain ⟨tb1, ht1⟩ := I.t1
  obtain ⟨tb2, ht2⟩ := I.t2
  have hKh10 : KeyIs h10 K' (cutK (Int.fmod x 4) (keyL (Int.fdiv x 4))) := by
    have g : K' ∉ [(525 : Addr)] := fun hm => hK'M (m1 _ hm)
    exact (((hKi6.keep K7 g).keep K8 g).keep K9 g).keep K10 g
  refine wpF.of (wpAny_execs_nil (hQ h10 k10 { f with t8 := t8, kind := .int (Int.fmod x 4) u8, t9 := t9', group := .int (grpOf (Int.fmod x 4) (Int.fdiv x 4)) u9', t10 := t10, before := .bytes (byteArr os) td, t11 := t11, handed := .ref h8.objs.size, t12 := t12, refused := .bool false } n10 h8.objs.size K' hn10 K010 ?_ ((s7 hIt nI1 nI2 nI3 nI4).trans hIt.symm) ?_))
  · refine ⟨I.step K010 e10 ⟨_, old a7 (by decide)⟩ ⟨_, old b7 (by decide)⟩ ⟨_, old c7 (by decide)⟩ ⟨_, s7 ht1 (by decide) (by decide) (by decide) (by decide)⟩ ⟨_, s7 ht2 (by decide) (by decide) (by decide) (by decide)⟩ ((s7 d2 nD1 nD2 nD3 nD4).trans d2.symm) ((s7 hIt nI1 nI2 nI3 nI4).trans hIt.symm) rfl rfl rfl,
      ⟨_, rfl⟩, ⟨_, rfl⟩, ⟨_, rfl⟩, rfl, rfl, old b7 (by decide), hKh10, ⟨_, old c7 (by decide)⟩, K10 _ _ hH9 (fun hm => hHM (m1 _ hm)), Nat.le_of_lt (Nat.lt_of_le_of_lt (by decide) (Heap.lt_size e8)), hHM, hK'5, hK'M, ?_⟩
    intro R' xs' nr' q1 q2
    have : R' = R := by
      have q1' : f.rows = .ref R' := q1
      rw [r1] at q1'; cases q1'; rfl
    subst this
    have q3 := K010 _ _ r2 r4
    rw [q2] at q3
    have hx : xs' = xs := by
      have := congrArg Obj.data (Option.some.inj q3)
      simp only [Data.seq.injEq] at this
      exact this.1
    subst hx
    refine ⟨fun e => ?_, fun i r e1 e2 => ?_⟩
    · rw [← e, r2] at hK's; cases hK's
    · obtain ⟨o, ho, _⟩ := row_there r5 i r e1
      rw [e2, hK's] at ho; cases ho
  · rfl
end
end Mine
end

section
open PySem PySem.W PySem.W.X PySem.Builtin PyProof.Rows
set_option maxRecDepth 100000
namespace Mine
theorem add_xor : ∀ (n a b : Nat), a ≤ n → a + b = (a ^^^ b) + 2 * (a &&& b) := by
  intro n
  induction n with
  | zero =>
    intro a b ha
    have : a = 0 := by omega
    subst this
    simp
  | succ n ih =>
    intro a b ha
    by_cases h0 : a = 0
    · subst h0; simp
    have ih' := ih (a / 2) (b / 2) (by omega)
    have h1 : (a ^^^ b) / 2 = a / 2 ^^^ b / 2 := Nat.xor_div_two
    have h2 : (a &&& b) / 2 = a / 2 &&& b / 2 := Nat.and_div_two
    have h3 := @Nat.xor_mod_two_eq_one a b
    have h4 := @Nat.and_mod_two_eq_one a b
    rw [← h1, ← h2] at ih'
    omega
theorem xor_nat (a b : Nat) : Builtin.bitXor (a : Int) (b : Int) = ((a ^^^ b : Nat) : Int) := by
  rw [bitXor_and, bitAnd_pp (Int.natCast_nonneg _) (Int.natCast_nonneg _)]
  have := add_xor a a b (Nat.le_refl _)
  simp only [Int.toNat_natCast]
  omega
theorem xor_oct {o k : Int} (ho : 0 ≤ o ∧ o < 256) (hk : 0 ≤ k ∧ k < 256) : 0 ≤ Builtin.bitXor o k ∧ Builtin.bitXor o k < 256 := by
  obtain ⟨a, rfl⟩ := Int.eq_ofNat_of_zero_le ho.1
  obtain ⟨b, rfl⟩ := Int.eq_ofNat_of_zero_le hk.1
  rw [xor_nat]
  have : a ^^^ b < 2 ^ 8 := Nat.xor_lt_two_pow (by omega) (by omega)
  omega
theorem bit_nat (a i : Nat) (hi : i < 8) : bitI (a : Int) i = ((a / 2 ^ (7 - i) % 2 : Nat) : Int) := by
  unfold bitI
  have e : (2 : Int) ^ (7 - i) = ((2 ^ (7 - i) : Nat) : Int) := by simp
  rw [e, Int.fdiv_eq_ediv_of_nonneg _ (Int.natCast_nonneg _), Int.fmod_eq_emod_of_nonneg _ (by decide)]
  simp
theorem xor_bit {o k : Int} (ho : 0 ≤ o) (hk : 0 ≤ k) (i : Nat) (hi : i < 8) : Int.fmod (bitI o i + Int.fdiv k (2 ^ (7 - (i : Int)).toNat)) 2 = bitI (Builtin.bitXor o k) i := by
  obtain ⟨a, rfl⟩ := Int.eq_ofNat_of_zero_le ho
  obtain ⟨b, rfl⟩ := Int.eq_ofNat_of_zero_le hk
  rw [xor_nat, bit_nat _ _ hi, bit_nat _ _ hi]
  have e1 : (7 - (i : Int)).toNat = 7 - i := by omega
  have e : (2 : Int) ^ (7 - i) = ((2 ^ (7 - i) : Nat) : Int) := by simp
  rw [e1, e, Int.fdiv_eq_ediv_of_nonneg _ (Int.natCast_nonneg _), Int.fmod_eq_emod_of_nonneg _ (by decide), Nat.xor_div_two_pow]
  have h3 := @Nat.xor_mod_two_eq_one (a / 2 ^ (7 - i)) (b / 2 ^ (7 - i))
  omega
theorem xor_back {o k : Int} (ho : 0 ≤ o) (hk : 0 ≤ k) : Builtin.bitXor (Builtin.bitXor o k) k = o := by
  obtain ⟨a, rfl⟩ := Int.eq_ofNat_of_zero_le ho
  obtain ⟨b, rfl⟩ := Int.eq_ofNat_of_zero_le hk
  rw [xor_nat, xor_nat, Nat.xor_assoc, Nat.xor_self, Nat.xor_zero]
def rotOk (am : Nat) : Bool := (List.range 256).all fun a =>
  let v := rotV am (Int.fmod (-(am : Int)) 8) (a : Int)
  decide (0 ≤ v) && decide (v < 256) && (List.range 8).all (fun i => decide (rotI am (bitI (a : Int)) i = bitI v i)) && decide (rotV (8 - (am : Int)) (Int.fmod (-(8 - (am : Int))) 8) v = a)
theorem rot_ok0 : rotOk 0 = true := by decide +kernel
theorem rot_ok1 : rotOk 1 = true := by decide +kernel
theorem rot_ok2 : rotOk 2 = true := by decide +kernel
theorem rot_ok3 : rotOk 3 = true := by decide +kernel
theorem rot_ok4 : rotOk 4 = true := by decide +kernel
theorem rot_ok5 : rotOk 5 = true := by decide +kernel
theorem rot_ok6 : rotOk 6 = true := by decide +kernel
theorem rot_ok7 : rotOk 7 = true := by decide +kernel
theorem rot_ok8 : rotOk 8 = true := by decide +kernel
theorem rot_all {am o : Int} (ha : 0 ≤ am ∧ am ≤ 8) (ho : 0 ≤ o ∧ o < 256) : (0 ≤ rotV am (Int.fmod (-am) 8) o ∧ rotV am (Int.fmod (-am) 8) o < 256) ∧ (∀ i, i < 8 → rotI am (bitI o) i = bitI (rotV am (Int.fmod (-am) 8) o) i) ∧ rotV (8 - am) (Int.fmod (-(8 - am)) 8) (rotV am (Int.fmod (-am) 8) o) = o := by
  obtain ⟨n, rfl⟩ := Int.eq_ofNat_of_zero_le ha.1
  obtain ⟨a, rfl⟩ := Int.eq_ofNat_of_zero_le ho.1
  have hn : n = 0 ∨ n = 1 ∨ n = 2 ∨ n = 3 ∨ n = 4 ∨ n = 5 ∨ n = 6 ∨ n = 7 ∨ n = 8 := by omega
  have h : rotOk n = true := by
    rcases hn with rfl | rfl | rfl | rfl | rfl | rfl | rfl | rfl | rfl
    · exact rot_ok0
    · exact rot_ok1
    · exact rot_ok2
    · exact rot_ok3
    · exact rot_ok4
    · exact rot_ok5
    · exact rot_ok6
    · exact rot_ok7
    · exact rot_ok8
  unfold rotOk at h
  rw [List.all_eq_true] at h
  have z := h a (List.mem_range.mpr (by omega))
  simp only [Bool.and_eq_true, decide_eq_true_eq, List.all_eq_true, List.mem_range] at z
  exact ⟨⟨z.1.1.1, z.1.1.2⟩, z.1.2, z.2⟩
end Mine
end

section
open PySem PySem.W PySem.W.X PySem.Builtin PyProof.Rows
set_option maxRecDepth 100000
namespace Mine
theorem rep_get {l : List Int} (hl : 0 < l.length) : ∀ (n j : Nat), j < n * l.length → (List.replicate n l).flatten[j]? = l[j % l.length]?
  | 0, j, h => by simp at h
  | n + 1, j, h => by
    rw [List.replicate_succ, List.flatten_cons]
    by_cases hj : j < l.length
    · rw [List.getElem?_append_left hj, Nat.mod_eq_of_lt hj]
    · rw [List.getElem?_append_right (by omega), rep_get hl n (j - l.length) (by rw [Nat.succ_mul] at h; omega)]
      have : j % l.length = (j - l.length) % l.length := Nat.mod_eq_sub_mod (by omega)
      rw [this]
theorem rep_getD {ks : List Int} (hk : ks ≠ []) {n j : Nat} (hj : j < n) : (repInts ks n).getD j 0 = ks.getD (j % ks.length) 0 := by
  have hl : 0 < ks.length := List.length_pos_iff.mpr hk
  unfold repInts
  rw [List.getD_eq_getElem?_getD, rep_get hl n j (Nat.lt_of_lt_of_le hj (Nat.le_mul_of_pos_right _ hl)), ← List.getD_eq_getElem?_getD]
theorem getD_mem {ks : List Int} {i : Nat} (hi : i < ks.length) : ks.getD i 0 ∈ ks := by
  rw [List.getD_eq_getElem?_getD, List.getElem?_eq_getElem hi]
  exact List.getElem_mem hi
def xmanyL (os ks : List Int) : List Int := (List.range os.length).map fun i => Builtin.bitXor (os.getD i 0) ((repInts ks os.length).getD i 0)
theorem xmanyL_len (os ks : List Int) : (xmanyL os ks).length = os.length := by simp [xmanyL]
theorem xmanyL_get {os ks : List Int} {i : Nat} (hi : i < os.length) : (xmanyL os ks).getD i 0 = Builtin.bitXor (os.getD i 0) ((repInts ks os.length).getD i 0) := by
  unfold xmanyL
  rw [List.getD_eq_getElem?_getD, List.getElem?_map, List.getElem?_range hi]
  rfl
theorem xmanyL_get? {os ks : List Int} {i : Nat} {o o' : Int} (h : os[i]? = some o) (h' : (xmanyL os ks)[i]? = some o') : o' = Builtin.bitXor o ((repInts ks os.length).getD i 0) := by
  have hi := (List.getElem?_eq_some_iff.mp h).1
  have e := xmanyL_get (ks := ks) hi
  rw [List.getD_eq_getElem?_getD, h'] at e
  rw [List.getD_eq_getElem?_getD, h] at e
  exact e
theorem xmanyL_oct {os ks : List Int} (ho : ∀ o ∈ os, 0 ≤ o ∧ o < 256) (hk : ∀ k ∈ ks, 0 ≤ k ∧ k < 256) (hk0 : ks ≠ []) : ∀ o ∈ xmanyL os ks, 0 ≤ o ∧ o < 256 := by
  intro o hm
  unfold xmanyL at hm
  obtain ⟨i, hi, rfl⟩ := List.mem_map.mp hm
  have hi := List.mem_range.mp hi
  rw [rep_getD hk0 hi]
  exact xor_oct (ho _ (getD_mem hi)) (hk _ (getD_mem (Nat.mod_lt _ (List.length_pos_iff.mpr hk0))))
theorem xmanyL_back {os ks : List Int} (ho : ∀ o ∈ os, 0 ≤ o ∧ o < 256) (hk : ∀ k ∈ ks, 0 ≤ k ∧ k < 256) (hk0 : ks ≠ []) : xmanyL (xmanyL os ks) ks = os := by
  refine List.ext_getElem? fun i => ?_
  by_cases hi : i < os.length
  · have hi' : i < (xmanyL (xmanyL os ks) ks).length := by rw [xmanyL_len, xmanyL_len]; exact hi
    have e := xmanyL_get (os := xmanyL os ks) (ks := ks) (i := i) (by rw [xmanyL_len]; exact hi)
    rw [xmanyL_get hi, xmanyL_len, rep_getD hk0 hi, xor_back (ho _ (getD_mem hi)).1 (hk _ (getD_mem (Nat.mod_lt _ (List.length_pos_iff.mpr hk0)))).1] at e
    rw [List.getD_eq_getElem?_getD, List.getD_eq_getElem?_getD, List.getElem?_eq_getElem hi', List.getElem?_eq_getElem hi] at e
    rw [List.getElem?_eq_getElem hi', List.getElem?_eq_getElem hi]
    exact congrArg some e
  · rw [List.getElem?_eq_none (by rw [xmanyL_len, xmanyL_len]; omega), List.getElem?_eq_none (by omega)]
theorem val_key {kts : List (Int × Tok)} {ks : List Int} (e : kts.map (·.1) = ks) (hk0 : ks ≠ []) (j : Nat) : valI (kArr kts) (Int.fmod j kts.length) = ks.getD (j % ks.length) 0 := by
  subst e
  have hl : 0 < kts.length := by
    have := List.length_pos_iff.mpr hk0
    simpa using this
  have h1 : Int.fmod (j : Int) (kts.length : Int) = ((j % kts.length : Nat) : Int) := by
    rw [Int.fmod_eq_emod_of_nonneg _ (Int.natCast_nonneg _)]; simp
  have h2 : j % kts.length < kts.length := Nat.mod_lt _ hl
  have h3 := kArr_get (ks := kts) (i := ((j % kts.length : Nat) : Int)) (Int.natCast_nonneg _) (by omega)
  rw [h1]
  simp only [Int.toNat_natCast, kArr, List.getElem?_toArray, List.getElem?_map, List.getElem?_eq_getElem h2, Option.map_some] at h3
  have h4 := (Value.int.inj (Option.some.inj h3)).1
  rw [show valI (kArr kts) ((j % kts.length : Nat) : Int) = valI (List.map (fun p => Value.int p.1 p.2) kts).toArray ((j % kts.length : Nat) : Int) from rfl, ← h4]
  rw [List.length_map, List.getD_eq_getElem?_getD, List.getElem?_map, List.getElem?_eq_getElem h2]
  rfl
theorem xbit_many {kts : List (Int × Tok)} {ks os : List Int} (e : kts.map (·.1) = ks) (hk0 : ks ≠ []) (hk : ∀ k ∈ ks, 0 ≤ k ∧ k < 256) (ho : ∀ o ∈ os, 0 ≤ o ∧ o < 256) (j : Nat) (o o' : Int) (h : os[j]? = some o) (h' : (xmanyL os ks)[j]? = some o') (i : Nat) (hi : i < 8) :
    xbit kts j (bitI o) i = bitI o' i := by
  have hj := (List.getElem?_eq_some_iff.mp h).1
  rw [xmanyL_get? h h', rep_getD hk0 hj]
  unfold xbit
  rw [val_key e hk0]
  exact xor_bit (ho _ (List.mem_of_getElem? h)).1 (hk _ (getD_mem (Nat.mod_lt _ (List.length_pos_iff.mpr hk0)))).1 i hi
theorem xbit_one {kts : List (Int × Tok)} {k0 : Int} {os : List Int} (e : kts.map (·.1) = [k0]) (hk : 0 ≤ k0) (ho : ∀ o ∈ os, 0 ≤ o ∧ o < 256) (j : Nat) (o o' : Int) (h : os[j]? = some o) (h' : (os.map fun o => Builtin.bitXor o k0)[j]? = some o') (i : Nat) (hi : i < 8) :
    xbit kts j (bitI o) i = bitI o' i := by
  rw [List.getElem?_map, h] at h'
  cases h'
  unfold xbit
  rw [val_key e (by simp)]
  have : ([k0] : List Int).getD (j % [k0].length) 0 = k0 := by
    have : j % [k0].length = 0 := Nat.mod_one j
    rw [this]; rfl
  rw [this]
  exact xor_bit (ho _ (List.mem_of_getElem? h)).1 hk i hi
structure DeedOk (d : Deed) : Prop where
  kd : d.kd = 0 ∨ d.kd = 1 ∨ d.kd = 2 ∨ d.kd = 3
  k0 : d.ks ≠ []
  k5 : d.ks.length ≤ 5
  oct : ∀ k ∈ d.ks, 0 ≤ k ∧ k < 256
  one : d.kd = 0 → ∃ k, d.ks = [k]
  am : 0 ≤ d.am ∧ d.am ≤ 8
  g : d.g = 1 ∨ (d.kd = 3 ∧ BadG d.g)
theorem deed_ok (x : Int) : DeedOk (deedOf x) := by
  have hk := keyL_len (Int.fdiv x 4)
  have ho := keyL_oct (Int.fdiv x 4)
  refine ⟨fmod4 x, ?_, ?_, ?_, ?_, ?_, ?_⟩
  · show cutK _ _ ≠ []
    unfold cutK
    split
    · intro e
      apply hk.2
      cases hq : keyL (Int.fdiv x 4) with
      | nil => rfl
      | cons a l => rw [hq] at e; simp at e
    · exact hk.2
  · show (cutK _ _).length ≤ 5
    unfold cutK
    split
    · rw [List.length_take]; omega
    · exact hk.1
  · intro k hm
    have hm : k ∈ cutK (Int.fmod x 4) (keyL (Int.fdiv x 4)) := hm
    unfold cutK at hm
    split at hm
    · exact ho _ (List.mem_of_mem_take hm)
    · exact ho _ hm
  · intro h0
    have h0 : Int.fmod x 4 = 0 := h0
    show ∃ k, cutK (Int.fmod x 4) (keyL (Int.fdiv x 4)) = [k]
    unfold cutK
    rw [if_pos h0]
    cases hq : keyL (Int.fdiv x 4) with
    | nil => exact absurd hq hk.2
    | cons a l => exact ⟨a, rfl⟩
  · show 0 ≤ Int.fmod _ 9 ∧ Int.fmod _ 9 ≤ 8
    rw [Int.fmod_eq_emod_of_nonneg _ (by decide)]
    omega
  · show grpOf (Int.fmod x 4) (Int.fdiv x 4) = 1 ∨ (Int.fmod x 4 = 3 ∧ BadG (grpOf (Int.fmod x 4) (Int.fdiv x 4)))
    unfold grpOf
    split
    · rename_i h3
      generalize Int.fdiv (Int.fdiv x 4) 9 = y
      rw [Int.fmod_eq_emod_of_nonneg y (by decide)]
      unfold BadG
      omega
    · exact .inl rfl
def stepL (d : Deed) (os : List Int) : List Int :=
  if d.kd = 0 then os.map (fun o => Builtin.bitXor o (d.ks.headD 0))
  else if d.kd = 1 then xmanyL os d.ks
  else if d.g = 1 then os.map (rotV d.am (Int.fmod (-d.am) 8))
  else os
def undoL (d : Deed) (os : List Int) : List Int :=
  if d.kd = 0 then os.map (fun o => Builtin.bitXor o (d.ks.headD 0))
  else if d.kd = 1 then xmanyL os d.ks
  else if d.g = 1 then os.map (rotV (8 - d.am) (Int.fmod (-(8 - d.am)) 8))
  else os
theorem map_back {f g : Int → Int} : ∀ {os : List Int}, (∀ o ∈ os, g (f o) = o) → (os.map f).map g = os
  | [], _ => rfl
  | o :: os, h => by
    rw [List.map_cons, List.map_cons, h o (.head _), map_back fun x hx => h x (.tail _ hx)]
theorem step_len (d : Deed) (os : List Int) : (stepL d os).length = os.length := by
  unfold stepL
  split
  · simp
  · split
    · exact xmanyL_len _ _
    · split <;> simp
theorem undo_len (d : Deed) (os : List Int) : (undoL d os).length = os.length := by
  unfold undoL
  split
  · simp
  · split
    · exact xmanyL_len _ _
    · split <;> simp
theorem step_oct {d : Deed} (hd : DeedOk d) {os : List Int} (ho : ∀ o ∈ os, 0 ≤ o ∧ o < 256) : ∀ o ∈ stepL d os, 0 ≤ o ∧ o < 256 := by
  unfold stepL
  split
  · rename_i h0
    obtain ⟨k, hk⟩ := hd.one h0
    have hk2 := hd.oct k (by rw [hk]; simp)
    intro o hm
    obtain ⟨o', hm', rfl⟩ := List.mem_map.mp hm
    rw [hk]
    exact xor_oct (ho _ hm') hk2
  · split
    · exact xmanyL_oct ho hd.oct hd.k0
    · split
      · intro o hm
        obtain ⟨o', hm', rfl⟩ := List.mem_map.mp hm
        exact (rot_all hd.am (ho _ hm')).1
      · exact ho
theorem undo_step {d : Deed} (hd : DeedOk d) {os : List Int} (ho : ∀ o ∈ os, 0 ≤ o ∧ o < 256) : undoL d (stepL d os) = os := by
  unfold undoL stepL
  split
  · rename_i h0
    obtain ⟨k, hk⟩ := hd.one h0
    have hk2 := hd.oct k (by rw [hk]; simp)
    rw [hk]
    exact map_back fun o hm => xor_back (ho _ hm).1 hk2.1
  · split
    · exact xmanyL_back ho hd.oct hd.k0
    · split
      · exact map_back fun o hm => (rot_all hd.am (ho _ hm)).2.2
      · rfl
end Mine
end

section
open PySem PySem.W PySem.W.X PySem.Builtin PyProof.Rows
set_option maxRecDepth 100000
set_option linter.unusedVariables false
set_option linter.unusedSimpArgs false
namespace Mine
/-- what holds behind the deed itself and the law's rows -/
structure Mid2 (P : Params) (h : Heap) (D It H K : Addr) (f : LF) (n : Nat) (os os' : List Int) (ds : List Deed) (d : Deed) (r : Bool) : Prop where
  inv : Inv P h D It f n os' ds
  kind : ∃ t, f.kind = .int d.kd t
  group : ∃ t, f.group = .int d.g t
  before : ∃ t, f.before = .bytes (byteArr os) t
  handed : f.handed = .ref H
  refused : f.refused = .bool r
  ref : RefOk d.g r
  key : h.get? 527 = some (cellO (some (.ref K)))
  keyIs : KeyIs h K d.ks
  am : ∃ t, h.get? 528 = some (cellO (some (.int d.am t)))
  hH : h.get? H = some (BA.baO (byteArr os))
  kM : K ∉ MM D It
  k5 : 524 ≤ K
def RowsIn (h : Heap) (D It : Addr) (v : Value) (os : List Int) : Prop := ∃ R xs nr, v = .ref R ∧ h.get? R = some (lstO xs nr) ∧ 524 ≤ R ∧ R ∉ MM D It ∧ RowsAre h xs.toList os ∧ ∀ (i : Nat) r, xs[i]? = some (.ref r) → r ∉ MM D It
theorem mk_mid2 {P : Params} {h h2 : Heap} {D It H K : Addr} {f f1 : LF} {n : Nat} {os os' : List Int} {ds : List Deed} {d : Deed} {r : Bool} (M0 : Mid P h D It H K f n os ds d) (hr : RefOk d.g r)
    (keep : ∀ a o, h.get? a = some o → a ∉ ([525, 319, 329] : List Addr) → h2.get? a = some o) (e : h2.get? 525 = some (lawFr P f1 n)) (t1 : ∃ tb, h2.get? 319 = some (tabO (genPos xoneGen) tb)) (t2 : ∃ tb, h2.get? 329 = some (tabO (genPos xmanyGen) tb))
    (hrow : RowsIn h2 D It f1.rows os') (hdat : ∃ t, f1.data = .bytes (byteArr os') t) (g1 : f1.kind = f.kind) (g2 : f1.group = f.group) (g3 : f1.before = f.before) (g4 : f1.handed = f.handed) (g5 : f1.done = f.done) (g6 : f1.refused = .bool r) (hl : os'.length = os.length) (ho : ∀ o ∈ os', 0 ≤ o ∧ o < 256) :
    Mid2 P h2 D It H K f1 n os os' ds d r := by
  have I := M0.inv
  have sub : ∀ {a : Addr}, a ∉ MM D It → a ∉ ([525, 319, 329] : List Addr) := fun ha hm => ha (by
    simp only [MM, List.mem_cons, List.not_mem_nil, or_false] at hm ⊢
    rcases hm with g | g | g <;> simp [g])
  have Kk : Kp (MM D It) h h2 := fun a o e hn => keep a o e (sub hn)
  have nl : ∀ {a : Addr}, 524 ≤ a → a ≠ 525 → a ∉ ([525, 319, 329] : List Addr) := fun h5 hne hm => by
    simp only [List.mem_cons, List.not_mem_nil, or_false] at hm
    rcases hm with g | g | g
    · exact hne g
    · rw [g] at h5; exact absurd h5 (by decide)
    · rw [g] at h5; exact absurd h5 (by decide)
  obtain ⟨nD1, nD2, nD3, nD4, nI1, nI2, nI3, nI4⟩ := I.ne
  obtain ⟨v1, hc1⟩ := I.c1
  obtain ⟨ta, hc3⟩ := M0.am
  obtain ⟨d1, vs, nd, d2, d3⟩ := I.done
  obtain ⟨oIt, hIt⟩ := I.it
  have q2 := keep _ _ M0.key (nl (by decide) (by decide))
  have q3 := keep _ _ hc3 (nl (by decide) (by decide))
  have J : Inv P h2 D It f1 n os' ds := ⟨I.fix.keepX Kk (mm_fix D It I.d5 I.i5), t1, t2, e, ⟨_, keep _ _ hc1 (nl (by decide) (by decide))⟩, ⟨_, q2⟩, ⟨_, q3⟩, hrow, hdat,
    ⟨g5.trans d1, vs, nd, keep _ _ d2 (nl I.d5 nD1), d3.keep Kk⟩, ⟨_, keep _ _ hIt (nl I.i5 nI1)⟩, I.d5, I.i5, I.dIt,
    fun o e => by rw [keep _ _ hIt (nl I.i5 nI1)] at e; cases e; exact I.itc _ hIt, by rw [hl]; exact I.len, ho⟩
  exact ⟨J, by rw [g1]; exact M0.kind, by rw [g2]; exact M0.group, by rw [g3]; exact M0.before, by rw [g4]; exact M0.handed, g6, hr, q2, M0.keyIs.keep Kk M0.kM, ⟨_, q3⟩, Kk _ _ M0.hH M0.hM, M0.kM, M0.k5⟩
section
variable {w : World} {b1 b2 : Bool} {A : Around} {s : Shared} {Q : Flow → Shared → Prop} {E : Value → Shared → Prop}
theorem nd_k {K : Addr} {D It : Addr} (h : K ∉ MM D It) : ([525, 527, K] : List Addr).Nodup := by
  have h1 : K ≠ 525 := fun e => h (by simp [MM, e])
  have h2 : K ≠ 527 := fun e => h (by simp [MM, e])
  simp [h1.symm, h2.symm]
theorem nd_r {R : Addr} {D It : Addr} (h : R ∉ MM D It) : ([525, R] : List Addr).Nodup := by
  have h1 : R ≠ 525 := fun e => h (by simp [MM, e])
  simp [h1.symm]
theorem rows_new {h0 h h' : Heap} {D It R' : Addr} {ys : Array Value} {k : Nat} {os : List Int} (X : Ex (MM D It) h) (e1 : h'.get? R' = some (lstO ys k)) (e5 : 524 ≤ R') (e2 : h.get? R' = none) (e3 : NewRows h h' ys.toList os) : RowsIn h' D It (.ref R') os :=
  ⟨R', ys, k, rfl, e1, e5, X.not e2, e3.rows, fun i r e => by
    have hlt : i < os.length := by
      have h1 := (Array.getElem?_eq_some_iff.mp e).1
      have h2 := e3.1
      simp only [Array.length_toList] at h2
      omega
    obtain ⟨r', g1, _, _, g4⟩ := e3.2 i _ (List.getElem?_eq_getElem hlt)
    rw [← Array.getElem?_toList, g1] at e
    cases e
    exact X.not g4⟩
theorem partB (hh : A.handled = none) (hroom : A.depth + 4 < recursionLimit) (hfr : A.frames = some [LE]) {D It H K : Addr} {f : LF} {n : Nat} {os : List Int} {ds : List Deed} {d : Deed} (M0 : Mid (pb w.params b1 b2) s.heap D It H K f n os ds d) (hd : DeedOk d) (hn : n = 12 ∨ n = 13)
    (hQ : ∀ s' f' r, Rel (MM D It) s s' → Mid2 (pb w.params b1 b2) s'.heap D It H K f' n os (stepL d os) ds d r → s'.heap.get? It = s.heap.get? It → f'.first = f.first → Q .next s') :
    wpF (model prg (wb w b1 b2)) A (execs [stmtAt dB 10, stmtAt dB 11] LE) Q E s := by
  have I := M0.inv
  obtain ⟨tk0, hkind⟩ := M0.kind
  obtain ⟨tg0, hgroup⟩ := M0.group
  obtain ⟨ta, hc3⟩ := M0.am
  obtain ⟨R, xs, nr, r1, r2, r3, r4, r5, r6⟩ := I.rows
  obtain ⟨kr1, kr2⟩ := M0.krow R xs nr r1 r2
  obtain ⟨td, hdat⟩ := I.data
  obtain ⟨tb1, ht1⟩ := I.t1
  obtain ⟨tb2, ht2⟩ := I.t2
  have m525 : ∀ x ∈ [(525 : Addr)], x ∈ MM D It := by simp [MM]
  have m1 : ∀ x ∈ [(525 : Addr), 319], x ∈ MM D It := by simp [MM]
  have m2 : ∀ x ∈ [(525 : Addr), 329], x ∈ MM D It := by simp [MM]
  have r525 : ∀ {a : Addr}, a ∉ MM D It → a ∉ ([525, 319] : List Addr) := fun ha hm => ha (m1 _ hm)
  have r329 : ∀ {a : Addr}, a ∉ MM D It → a ∉ ([525, 329] : List Addr) := fun ha hm => ha (m2 _ hm)
  have lo1 : ∀ a ∈ ([525, 527, K] : List Addr), 524 ≤ a := by
    intro a ha
    simp only [List.mem_cons, List.not_mem_nil, or_false] at ha
    rcases ha with rfl | rfl | rfl
    · decide
    · decide
    · exact M0.k5
  have loR : ∀ a ∈ ([525, R] : List Addr), 524 ≤ a := by
    intro a ha
    simp only [List.mem_cons, List.not_mem_nil, or_false] at ha
    rcases ha with rfl | rfl
    · decide
    · exact r3
  have rowsK : ∀ {h' : Heap} {M : List Addr}, Kp M s.heap h' → (∀ x ∈ M, x ∈ MM D It) → RowsAre h' xs.toList os := fun K hM => ⟨r5.1, fun i o e => by
    obtain ⟨r, a1, a2, a3⟩ := r5.2 i o e
    exact ⟨r, a1, a2, a3.keep K fun hm => r6 i r (by rw [← Array.getElem?_toList]; exact a1) (hM _ hm)⟩⟩
  have fixK : ∀ {h' : Heap} {M : List Addr}, Kp M s.heap h' → (∀ x ∈ M, x ∈ MM D It) → Fix (pb w.params b1 b2) h' := fun K hM => I.fix.keepX (K.mono hM) (mm_fix D It I.d5 I.i5)
  obtain ⟨oIt, hIt⟩ := I.it
  have nI1 := I.ne.2.2.2.2.1
  have itk : ∀ {h2 : Heap}, (∀ a o, s.heap.get? a = some o → a ∉ ([525, 319, 329] : List Addr) → h2.get? a = some o) → h2.get? It = s.heap.get? It := fun keep => (keep _ _ hIt (fun hm => by
    simp only [List.mem_cons, List.not_mem_nil, or_false] at hm
    have h5 := I.i5
    rcases hm with g | g | g
    · exact nI1 g
    · rw [g] at h5; exact absurd h5 (by decide)
    · rw [g] at h5; exact absurd h5 (by decide))).trans hIt.symm
  have rot : ∀ {kd : Int}, (kd = 2 ∨ kd = 3) → f.kind = .int kd tk0 → ¬ d.kd = 0 → ¬ d.kd = 1 → d.g = 1 → wpF (model prg (wb w b1 b2)) A (execs [stmtAt dB 10, stmtAt dB 11] LE) Q E s := fun {kd} hkd hkind h0 h1 hg => by
    rw [hg] at hgroup
    have hos' : stepL d os = os.map (rotV d.am (Int.fmod (-d.am) 8)) := by unfold stepL; rw [if_neg h0, if_neg h1, if_pos hg]
    refine wpF_execs_cons (st_try_2 hh (by omega) hn (by simp) M0.h5 (by decide) I.fix hkd hkind M0.handed hgroup hdat I.fr hc3 M0.hH I.oct I.len hd.am (fun o ho => (rot_all hd.am (I.oct o ho)).1) ?_)
    intro h1 k1 t1 K1 e1
    have X1 : Ex (MM D It) h1 := I.ex.one K1 e1
    refine .of (st_rows_r (f := { f with data := .bytes (byteArr (os.map (rotV d.am (Int.fmod (-d.am) 8)))) t1 }) (os' := os.map (rotV d.am (Int.fmod (-d.am) 8))) hh hn loR (nd_r r4) hkd hkind hgroup r1 e1 (K1 _ _ hc3 (by decide)) hd.am.1 hd.am.2 (K1 _ _ r2 (fun hm => r4 (m525 _ hm))) (rowsK K1 m525) I.len (by simp) (fun j o o' a b i hi => by
      rw [List.getElem?_map, a] at b
      cases b
      exact (rot_all hd.am (I.oct o (List.mem_of_getElem? a))).2.1 i hi) ?_)
    intro h2 k2 R' ys k K2 e2 e3 e4 e5 e6
    have keep : ∀ a o, s.heap.get? a = some o → a ∉ ([525, 319, 329] : List Addr) → h2.get? a = some o := fun a o e hn => K2 _ _ (K1 _ _ e (fun hm => hn (by simp at hm ⊢; simp [hm]))) (fun hm => hn (by simp at hm ⊢; simp [hm]))
    exact hQ _ { f with data := .bytes (byteArr (os.map (rotV d.am (Int.fmod (-d.am) 8)))) t1, rows := .ref R' } false (((Rel.of_kp K1).mono m525).trans ((Rel.of_kp K2).mono m525)) (hos' ▸ mk_mid2 (os' := os.map (rotV d.am (Int.fmod (-d.am) 8))) M0 (.inl ⟨hg, rfl⟩) keep e2 ⟨_, K2 _ _ (K1 _ _ ht1 (by decide)) (by decide)⟩ ⟨_, K2 _ _ (K1 _ _ ht2 (by decide)) (by decide)⟩ (rows_new (h0 := s.heap) X1 e3 e4 e5 e6) ⟨_, rfl⟩ rfl rfl rfl rfl rfl M0.refused (by simp) (hos' ▸ step_oct hd I.oct)) (itk keep) rfl
  rcases hd.kd with h0 | h0 | h0 | h0
  · -- one key for all
    obtain ⟨k0, hk⟩ := hd.one h0
    have hko := hd.oct k0 (by rw [hk]; simp)
    have hKi := M0.keyIs
    obtain ⟨vs, nn, hKg, hKv⟩ := id hKi
    rw [hk] at hKv
    generalize hvl : vs.toList = vl at hKv
    have hKg := lst_eta hKg hvl
    cases hKv with
    | cons _ u0 hKv =>
    cases hKv
    rw [h0] at hkind
    have hos' : stepL d os = os.map fun o => Builtin.bitXor o k0 := by unfold stepL; rw [if_pos h0, hk]; rfl
    refine wpF_execs_cons (.of (st_try_0 hh hroom hn lo1 (nd_k M0.kM) I.fix ht1 hkind M0.handed hdat I.fr M0.key hKg M0.hH I.oct I.len (fun o ho => xor_oct (I.oct o ho) hko) ?_))
    intro s1 t1 c1 R1 e1 T1
    have X1 : Ex (MM D It) s1.heap := I.ex.step R1.heap fun a ha => by
      simp only [List.mem_cons, List.not_mem_nil, or_false] at ha
      rcases ha with rfl | rfl
      · exact ⟨_, e1⟩
      · exact ⟨_, T1⟩
    refine .of (st_rows_x (f := { f with data := .bytes (byteArr (os.map fun o => Builtin.bitXor o k0)) t1 }) (os' := os.map fun o => Builtin.bitXor o k0) hh hn loR M0.k5 (nd_r r4) (fixK R1.heap m1) (.inl rfl) hkind r1 e1 (R1.heap _ _ M0.key (by decide)) (hKi.keep R1.heap (r525 M0.kM)) hd.k0 hd.k5 (R1.heap _ _ r2 (r525 r4)) (rowsK R1.heap m1) kr1 kr2 I.len (by simp) (fun kts e j o o' a b i hi => xbit_one (by rw [e, hk]) hko.1 I.oct j o o' a b i hi) ?_)
    intro h2 k2 R' ys k K2 e2 e3 e4 e5 e6
    have keep : ∀ a o, s.heap.get? a = some o → a ∉ ([525, 319, 329] : List Addr) → h2.get? a = some o := fun a o e hn => K2 _ _ (R1.heap _ _ e (fun hm => hn (by simp at hm ⊢; rcases hm with g | g <;> simp [g]))) (fun hm => hn (by simp at hm ⊢; simp [hm]))
    refine hQ _ { f with data := .bytes (byteArr (os.map fun o => Builtin.bitXor o k0)) t1, rows := .ref R' } false ((R1.mono m1).trans ((Rel.of_kp K2).mono m525)) (hos' ▸ mk_mid2 (os' := os.map fun o => Builtin.bitXor o k0) M0 (.inl ⟨?_, rfl⟩) keep e2 ⟨_, K2 _ _ T1 (by decide)⟩ ⟨_, K2 _ _ (R1.heap _ _ ht2 (by decide)) (by decide)⟩ (rows_new (h0 := s.heap) X1 e3 e4 e5 e6) ⟨_, rfl⟩ rfl rfl rfl rfl rfl M0.refused (by simp) (hos' ▸ step_oct hd I.oct)) (itk keep) rfl
    rcases hd.g with g | ⟨g, _⟩
    · exact g
    · rw [h0] at g; exact absurd g (by decide)
  · -- a key laid again and again
    rw [h0] at hkind
    have hos' : stepL d os = xmanyL os d.ks := by unfold stepL; rw [if_neg (by rw [h0]; decide), if_pos h0]
    refine wpF_execs_cons (.of (st_try_1 (ns := xmanyL os d.ks) hh hroom hn (by simp) M0.h5 (by decide) I.fix ht2 hkind M0.handed hdat I.fr M0.key M0.keyIs M0.hH I.oct hd.oct I.len hd.k0 hd.k5 (xmanyL_len _ _) (fun i hi => xmanyL_get hi) (xmanyL_oct I.oct hd.oct hd.k0) ?_))
    intro s1 t1 c1 R1 e1 T1
    have X1 : Ex (MM D It) s1.heap := I.ex.step R1.heap fun a ha => by
      simp only [List.mem_cons, List.not_mem_nil, or_false] at ha
      rcases ha with rfl | rfl
      · exact ⟨_, e1⟩
      · exact ⟨_, T1⟩
    refine .of (st_rows_x (f := { f with data := .bytes (byteArr (xmanyL os d.ks)) t1 }) (os' := xmanyL os d.ks) hh hn loR M0.k5 (nd_r r4) (fixK R1.heap m2) (.inr rfl) hkind r1 e1 (R1.heap _ _ M0.key (by decide)) (M0.keyIs.keep R1.heap (r329 M0.kM)) hd.k0 hd.k5 (R1.heap _ _ r2 (r329 r4)) (rowsK R1.heap m2) kr1 kr2 I.len (xmanyL_len _ _) (fun kts e j o o' a b i hi => xbit_many e hd.k0 hd.oct I.oct j o o' a b i hi) ?_)
    intro h2 k2 R' ys k K2 e2 e3 e4 e5 e6
    have keep : ∀ a o, s.heap.get? a = some o → a ∉ ([525, 319, 329] : List Addr) → h2.get? a = some o := fun a o e hn => K2 _ _ (R1.heap _ _ e (fun hm => hn (by simp at hm ⊢; rcases hm with g | g <;> simp [g]))) (fun hm => hn (by simp at hm ⊢; simp [hm]))
    refine hQ _ { f with data := .bytes (byteArr (xmanyL os d.ks)) t1, rows := .ref R' } false ((R1.mono m2).trans ((Rel.of_kp K2).mono m525)) (hos' ▸ mk_mid2 (os' := xmanyL os d.ks) M0 (.inl ⟨?_, rfl⟩) keep e2 ⟨_, K2 _ _ (R1.heap _ _ ht1 (by decide)) (by decide)⟩ ⟨_, K2 _ _ T1 (by decide)⟩ (rows_new (h0 := s.heap) X1 e3 e4 e5 e6) ⟨_, rfl⟩ rfl rfl rfl rfl rfl M0.refused (xmanyL_len _ _) (hos' ▸ step_oct hd I.oct)) (itk keep) rfl
    rcases hd.g with g | ⟨g, _⟩
    · exact g
    · rw [h0] at g; exact absurd g (by decide)
  · rw [h0] at hkind
    refine rot (.inl rfl) hkind (by rw [h0]; decide) (by rw [h0]; decide) ?_
    rcases hd.g with g | ⟨g, _⟩
    · exact g
    · rw [h0] at g; exact absurd g (by decide)
  · rw [h0] at hkind
    rcases hd.g with hg | ⟨_, hg⟩
    · exact rot (.inr rfl) hkind (by rw [h0]; decide) (by rw [h0]; decide) hg
    · -- refused
      have hos' : stepL d os = os := by
        unfold stepL
        rw [if_neg (by rw [h0]; decide), if_neg (by rw [h0]; decide), if_neg]
        intro e
        rw [e] at hg
        rcases hg with g | g | g | g | g | g | g | g | g <;> exact absurd g (by decide)
      refine wpF_execs_cons (.of (st_try_r hh (by omega) (b := #[]) (t2 := 0) hn (by simp) (by decide) I.fix hfr hg hkind M0.handed hgroup I.fr hc3 ?_))
      intro h1 k1 sl K1 e1
      refine .of (st_rows_n (f := { f with refused := .bool true, sl := sl }) hh hn hg hkind hgroup e1 ?_)
      intro h2 k2 K2
      have K12 : Kp [525] s.heap h2 := K1.trans (K2.mono fun _ h => by cases h)
      have keep : ∀ a o, s.heap.get? a = some o → a ∉ ([525, 319, 329] : List Addr) → h2.get? a = some o := fun a o e hn => K12 _ _ e (fun hm => hn (by simp at hm ⊢; simp [hm]))
      refine hQ _ { f with refused := .bool true, sl := sl } true ((Rel.of_kp K12).mono m525) (hos'.symm ▸ mk_mid2 (os' := os) M0 (.inr ⟨hg, rfl⟩) keep (K2 _ _ e1 (by simp)) ⟨_, K12 _ _ ht1 (by decide)⟩ ⟨_, K12 _ _ ht2 (by decide)⟩ ⟨R, xs, nr, r1, K12 _ _ r2 (fun hm => r4 (m525 _ hm)), r3, r4, rowsK K12 m525, r6⟩ ⟨_, hdat⟩ rfl rfl rfl rfl rfl rfl rfl I.oct) (itk keep) rfl
end
end Mine
end

section
open PySem PySem.W PySem.W.X PySem.Builtin PyProof.Rows
set_option maxRecDepth 100000
set_option linter.unusedVariables false
set_option linter.unusedSimpArgs false
namespace Mine
section
variable {w : World} {b1 b2 : Bool} {A : Around} {s : Shared} {Q : Flow → Shared → Prop} {E : Value → Shared → Prop}
theorem partC (hh : A.handled = none) {D It H K : Addr} {f : LF} {n : Nat} {os os' : List Int} {ds : List Deed} {d : Deed} {r : Bool} (M2 : Mid2 (pb w.params b1 b2) s.heap D It H K f n os os' ds d r) (hn : n = 12 ∨ n = 13) (hol : os.length ≤ 8) (hds : ds.length ≤ 1000)
    (hQ : ∀ h' tk f', Kp (MM D It) s.heap h' → Inv (pb w.params b1 b2) h' D It f' 13 os' (ds ++ [d]) → h'.get? It = s.heap.get? It → f'.first = f.first → Q .next { s with heap := h', toks := tk }) :
    wpAny (model prg (wb w b1 b2)) A (execs [stmtAt dB 12, stmtAt dB 13, stmtAt dB 14, stmtAt dB 15] LE) Q E s := by
  have I := M2.inv
  obtain ⟨tk0, hkind⟩ := M2.kind
  obtain ⟨tg0, hgroup⟩ := M2.group
  obtain ⟨ta, hc3⟩ := M2.am
  obtain ⟨tb, hbef⟩ := M2.before
  obtain ⟨R, xs, nr, r1, r2, r3, r4, r5, r6⟩ := I.rows
  obtain ⟨td, hdat⟩ := I.data
  obtain ⟨tb1, ht1⟩ := I.t1
  obtain ⟨tb2, ht2⟩ := I.t2
  obtain ⟨v1, hc1⟩ := I.c1
  obtain ⟨d1, vs, nd, d2, d3⟩ := I.done
  obtain ⟨oIt, hIt⟩ := I.it
  obtain ⟨nD1, nD2, nD3, nD4, nI1, nI2, nI3, nI4⟩ := I.ne
  have m525 : ∀ x ∈ [(525 : Addr)], x ∈ MM D It := by simp [MM]
  have mD : ∀ x ∈ [D], x ∈ MM D It := by simp [MM]
  have loR : ∀ a ∈ ([525, R] : List Addr), 524 ≤ a := by
    intro a ha
    simp only [List.mem_cons, List.not_mem_nil, or_false] at ha
    rcases ha with rfl | rfl
    · decide
    · exact r3
  have split1 : ∀ (a b c d : Stmt) (h : wpAny (model prg (wb w b1 b2)) A (execs [a] LE) (fun f s' => match f with | .next => wpAny (model prg (wb w b1 b2)) A (execs [b, c, d] LE) Q E s' | f => Q f s') E s), wpAny (model prg (wb w b1 b2)) A (execs [a, b, c, d] LE) Q E s := fun a b c d h => wpAny_execs_append [a] [b, c, d] h
  refine split1 _ _ _ _ (st_told hh hn loR (nd_r r4) I.fix r1 I.fr r2 r5 I.len I.oct ?_)
  intro h1 k1 tt tu K1 e1
  have o1 : ∀ {a : Addr} {o : Obj}, s.heap.get? a = some o → a ≠ 525 → h1.get? a = some o := fun e hne => K1 _ _ e (by simpa using hne)
  have F1 := I.fix.keepX (K1.mono m525) (mm_fix D It I.d5 I.i5)
  have H525 : H ≠ 525 := fun e => by
    have := M2.hH
    rw [e, I.fr] at this
    exact absurd (congrArg Obj.cls (Option.some.inj this)) (by simp [lawFr])
  refine wpAny_execs_append [_] [_, _] (st_check1 hh (f := { f with t13 := tt, told := .bytes (byteArr os') tu }) (by decide) F1 M2.ref hgroup M2.refused M2.handed hbef e1 (o1 M2.hH H525) hol ?_)
  intro h2 k2 K2
  have nil : ∀ a : Addr, a ∉ ([] : List Addr) := fun a => by simp
  have F2 := F1.keep K2 (fun a ha => by cases ha)
  refine wpAny_execs_append [_] [_] (st_check2 hh (f := { f with t13 := tt, told := .bytes (byteArr os') tu }) (by decide) F2 hdat rfl (K2 _ _ e1 (nil _)) ?_)
  intro h3 k3 K3
  have o3 : ∀ {a : Addr} {o : Obj}, s.heap.get? a = some o → a ≠ 525 → h3.get? a = some o := fun e hne => K3 _ _ (K2 _ _ (o1 e hne) (nil _)) (nil _)
  have e3 := K3 _ _ (K2 _ _ e1 (nil _)) (nil _)
  have K03 : Kp [525] s.heap h3 := K1.trans ((K2.trans K3).mono fun _ h => by cases h)
  refine st_done hh (f := { f with t13 := tt, told := .bytes (byteArr os') tu }) (D := D) (K := K) (am := d.am) (ta := ta) (xs := vs) (nd := nd) (by simp [nD1.symm, nD3, nD4]) hkind hgroup d1 e3 (o3 d2 nD1) (o3 M2.key (by decide)) (o3 hc3 (by decide)) ?_ ?_
  · have := d3.len
    rw [Array.length_toList] at this
    exact Nat.le_trans (by omega) (by decide +kernel : 1000 ≤ sizeLine)
  intro h4 k4 K4 eD eT
  have Kall : Kp (MM D It) s.heap h4 := (K03.mono m525).trans (K4.mono mD)
  have nD : ∀ {a : Addr}, a ≠ D → a ∉ [D] := fun h => by simpa using h
  have X3 : Ex (MM D It) h3 := I.ex.one K03 e3
  have hTn : h3.objs.size ∉ MM D It := X3.not (none_of_ge (Nat.le_refl _))
  have o4 : ∀ {a : Addr} {o : Obj}, s.heap.get? a = some o → a ≠ 525 → a ≠ D → h4.get? a = some o := fun e hne hne2 => K4 _ _ (o3 e hne) (nD hne2)
  have n319 : (319 : Addr) ≠ D := fun e => by have := I.d5; rw [← e] at this; exact absurd this (by decide)
  have n329 : (329 : Addr) ≠ D := fun e => by have := I.d5; rw [← e] at this; exact absurd this (by decide)
  refine hQ h4 _ _ Kall ⟨I.fix.keepX Kall (mm_fix D It I.d5 I.i5), ⟨_, o4 ht1 (by decide) n319⟩, ⟨_, o4 ht2 (by decide) n329⟩, K4 _ _ e3 (nD (Ne.symm nD1)), ⟨_, o4 hc1 (by decide) (Ne.symm nD2)⟩, ⟨_, o4 M2.key (by decide) (Ne.symm nD3)⟩, ⟨_, o4 hc3 (by decide) (Ne.symm nD4)⟩,
    ⟨R, xs, nr, r1, Kall _ _ r2 r4, r3, r4, ⟨r5.1, fun i o e => ?_⟩, r6⟩, ⟨td, hdat⟩, ⟨d1, _, _, eD, ?_⟩, ⟨_, o4 hIt nI1 (Ne.symm I.dIt)⟩, I.d5, I.i5, I.dIt, fun o e => ?_, I.len, I.oct⟩ ((o4 hIt nI1 (Ne.symm I.dIt)).trans hIt.symm) rfl
  · obtain ⟨r, a1, a2, a3⟩ := r5.2 i o e
    exact ⟨r, a1, a2, a3.keep Kall (r6 i r (by rw [← Array.getElem?_toList]; exact a1))⟩
  · rw [Array.toList_push]
    exact DoneAre.push ⟨h3.objs.size, K, tk0, ta, tg0, rfl, hTn, M2.kM, M2.k5, eT, M2.keyIs.keep Kall M2.kM⟩ (d3.keep Kall)
  · rw [o4 hIt nI1 (Ne.symm I.dIt)] at e
    cases e
    exact I.itc _ hIt
/-- one deed's whole body -/
theorem deed_body (hh : A.handled = none) (hroom : A.depth + 4 < recursionLimit) (hfr : A.frames = some [LE]) {D It : Addr} {f : LF} {n : Nat} {os : List Int} {ds : List Deed} {x : Int} {t : Tok} (I : Inv (pb w.params b1 b2) s.heap D It f n os ds) (hn : n = 7 ∨ n = 13) (hx : f.x = .int x t) (hds : ds.length ≤ 1000)
    (hQ : ∀ s' f', Rel (MM D It) s s' → Inv (pb w.params b1 b2) s'.heap D It f' 13 (stepL (deedOf x) os) (ds ++ [deedOf x]) → s'.heap.get? It = s.heap.get? It → f'.first = f.first → Q .next s') :
    wpF (model prg (wb w b1 b2)) A (execs dB LE) Q E s := by
  show wpF _ _ (execs (dB.take 10 ++ ([stmtAt dB 10, stmtAt dB 11] ++ [stmtAt dB 12, stmtAt dB 13, stmtAt dB 14, stmtAt dB 15])) _) _ _ _
  refine wpF_execs_append _ _ (partA hh I hn hx ?_)
  intro h1 k1 f1 n1 H K hn1 K1 M1 i1 g1
  refine wpF_execs_append _ _ (partB hh hroom hfr M1 (deed_ok x) hn1 ?_)
  intro s2 f2 r R2 M2 i2 g2
  refine .of (partC hh M2 hn1 I.len hds ?_)
  intro h3 k3 f3 K3 I3 i3 g3
  exact hQ _ f3 ((Rel.of_kp K1).trans (R2.trans (Rel.of_kp K3))) I3 (i3.trans (i2.trans i1)) (g3.trans (g2.trans g1))
end
end Mine
end

section
open PySem PySem.W PySem.W.X PySem.Builtin PyProof.Rows
set_option maxRecDepth 100000
set_option linter.unusedVariables false
set_option linter.unusedSimpArgs false
namespace Mine
abbrev forD : Stmt := stmtAt lawB 5
section
variable {w : World} {b1 b2 : Bool} {A : Around} {s : Shared}
theorem st_x (hh : A.handled = none) {L ca ck cm : Addr} {f : LF} {n : Nat} {x : Int} {t : Tok} {Q : Unit → Shared → Prop} {E : Value → Shared → Prop} (hn : n = 6 ∨ n = 13) (hL : s.heap.get? L = some (lawFr (pb w.params b1 b2) f n))
    (hQ : ∀ h' tk (tt : Tok) n', (n' = 7 ∨ n' = 13) → Kp [L] s.heap h' → h'.get? L = some (lawFr (pb w.params b1 b2) { f with t7 := tt, x := .int x t } n') → Q () { s with heap := h', toks := tk }) :
    wpAny (model prg (wb w b1 b2)) A (assign (forTarget forD) (lawEnv L ca ck cm) (.int x t)) Q E s := by
  rcases hn with rfl | rfl
  · refine wpAny_assign1 (any_fin hh [(L, lawFr (pb w.params b1 b2) f 6)] 9 [0, 0] (.done .next) [0] [(L, lawFr (pb w.params b1 b2) { f with t7 := s.toks + 0, x := .int x t } 7)] 0 1 True (by simpa using hL) (by simp) (fun _ _ _ _ _ => by clear hQ; kernel_rfl) trivial (by decide) ?_)
    intro h' H
    exact hQ _ _ (s.toks + 0) _ (.inl rfl) (H.kpM _ fun b hb => .inl hb) (H.at 0 rfl)
  · refine wpAny_assign1 (any_fin hh [(L, lawFr (pb w.params b1 b2) f 13)] 9 [0, 0] (.done .next) [0] [(L, lawFr (pb w.params b1 b2) { f with x := .int x t } 13)] 0 1 True (by simpa using hL) (by simp) (fun _ _ _ _ _ => by clear hQ; kernel_rfl) trivial (by decide) ?_)
    intro h' H
    exact hQ _ _ f.t7 _ (.inr rfl) (H.kpM _ fun b hb => .inl hb) (H.at 0 rfl)
/-- the octets after some deeds -/
def stepsL (xs : List Int) (os : List Int) : List Int := xs.foldl (fun os x => stepL (deedOf x) os) os
theorem intsAre_get : ∀ {l : List Value} {ks : List Int}, IntsAre l ks → ∀ {i : Nat} {v : Value}, l[i]? = some v → ∃ k t, ks[i]? = some k ∧ v = .int k t
  | _, _, .nil, i, v, e => by simp at e
  | _, _, .cons n t h, 0, v, e => by simp at e; exact ⟨n, t, rfl, e.symm⟩
  | _, _, .cons n t h, i + 1, v, e => by
    rw [List.getElem?_cons_succ] at e
    obtain ⟨k, t', a, b⟩ := intsAre_get h e
    exact ⟨k, t', by rw [List.getElem?_cons_succ]; exact a, b⟩
theorem intsAre_len {l : List Value} {ks : List Int} (h : IntsAre l ks) : l.length = ks.length := h.length
theorem deeds_code (hh : A.handled = none) (hroom : A.depth + 4 < recursionLimit) (hfr : A.frames = some [LE]) {D It dl : Addr} {f : LF} {os : List Int} {xs : Array Value} {zs : List Int} {R : Result → Shared → Prop} (I : Inv (pb w.params b1 b2) s.heap D It f 6 os [])
    (hit : s.heap.IsListIter It dl 0) (hl : s.heap.IsList dl xs) (hdl : dl ∉ MM D It) (hzs : IntsAre xs.toList zs) (hz : zs.length ≤ 1000) (hz0 : zs ≠ [])
    (hR : ∀ s' f' n' h2 tk, Rel (MM D It) s s' → n' = 13 → Inv (pb w.params b1 b2) s'.heap D It f' n' (stepsL zs os) (zs.map deedOf) → f'.first = f.first → Kp [It] s'.heap h2 → R (.ok .next) { s' with heap := h2, toks := tk }) :
    codeF (model prg (wb w b1 b2)) A (.forLoop (forTarget forD) (.ref It) dB [] LE) R s := by
  have hlI : dl ≠ It := fun e => hdl (by simp [MM, e])
  have hsz : xs.size = zs.length := by have := hzs.length; rwa [Array.length_toList] at this
  have W := Walks.list (prog := prg) (w := wb w b1 b2) hh It dl hlI xs
  have mI : ∀ x ∈ [It], x ∈ MM D It := by simp [MM]
  have m525 : ∀ x ∈ [(525 : Addr)], x ∈ MM D It := by simp [MM]
  refine codeF_forLoop (fun k s' => ∃ i f' n', i ≤ zs.length ∧ k = zs.length - i ∧ ((i = 0 ∧ n' = 6) ∨ n' = 13) ∧ Rel (MM D It) s s' ∧ Inv (pb w.params b1 b2) s'.heap D It f' n' (stepsL (zs.take i) os) ((zs.take i).map deedOf) ∧ f'.first = f.first ∧ (s'.heap.IsListIter It dl i ∧ s'.heap.IsList dl xs)) ?_ zs.length
    ⟨0, f, 6, Nat.zero_le _, by simp, .inl ⟨rfl, rfl⟩, ⟨Kp.refl _ _, fun h => h, rfl, rfl⟩, I, rfl, hit, hl⟩
  rintro k s1 ⟨i, f1, n1, hi, rfl, hn1, R1, I1, g1, st1⟩
  have itstep : ∀ {h2 : Heap}, Kp [It] s1.heap h2 → (∃ o, h2.get? It = some o ∧ o.cls = .type "list_iterator") → Inv (pb w.params b1 b2) h2 D It f1 n1 (stepsL (zs.take i) os) ((zs.take i).map deedOf) := fun {h2} K2 hIt2 => by
    obtain ⟨nD1, nD2, nD3, nD4, nI1, nI2, nI3, nI4⟩ := I1.ne
    obtain ⟨v1, hc1⟩ := I1.c1; obtain ⟨v2, hc2⟩ := I1.c2; obtain ⟨v3, hc3⟩ := I1.c3; obtain ⟨tb1, ht1⟩ := I1.t1; obtain ⟨tb2, ht2⟩ := I1.t2; obtain ⟨d1, vs, nd, d2, d3⟩ := I1.done
    obtain ⟨R, ys, nr, r1, r2, r3, r4, r5, r6⟩ := I1.rows
    obtain ⟨oI, hI, hIc⟩ := hIt2
    have nI : ∀ {a : Addr}, a ≠ It → a ∉ [It] := fun h => by simpa using h
    have n319 : (319 : Addr) ≠ It := fun e => by have := I1.i5; rw [← e] at this; exact absurd this (by decide)
    have n329 : (329 : Addr) ≠ It := fun e => by have := I1.i5; rw [← e] at this; exact absurd this (by decide)
    refine ⟨I1.fix.keepX (K2.mono mI) (mm_fix D It I1.d5 I1.i5), ⟨_, K2 _ _ ht1 (nI n319)⟩, ⟨_, K2 _ _ ht2 (nI n329)⟩, K2 _ _ I1.fr (nI nI1.symm), ⟨_, K2 _ _ hc1 (nI nI2.symm)⟩, ⟨_, K2 _ _ hc2 (nI nI3.symm)⟩, ⟨_, K2 _ _ hc3 (nI nI4.symm)⟩, ⟨R, ys, nr, r1, K2 _ _ r2 (fun hm => r4 (mI _ hm)), r3, r4, ⟨r5.1, fun j o e => ?_⟩, r6⟩, I1.data,
      ⟨d1, vs, nd, K2 _ _ d2 (nI I1.dIt), d3.keep (K2.mono mI)⟩, ⟨_, hI⟩, I1.d5, I1.i5, I1.dIt, fun o e => by rw [hI] at e; cases e; exact hIc, I1.len, I1.oct⟩
    obtain ⟨r, a1, a2, a3⟩ := r5.2 j o e
    exact ⟨r, a1, a2, a3.keep K2 fun hm => r6 j r (by rw [← Array.getElem?_toList]; exact a1) (mI _ hm)⟩
  by_cases hlt : i < zs.length
  · refine W.item i s1 _ _ (by rw [hsz]; exact hlt) st1 fun v h2 tk2 hP st2 hK => ?_
    have K2 : Kp [It] s1.heap h2 := fun b o hb hn => hK b o hn hb
    have I2 := itstep K2 (by obtain ⟨o, a, b, _⟩ := st2.1; exact ⟨o, a, b⟩)
    obtain ⟨x, t, hx, rfl⟩ := intsAre_get hzs (by rw [Array.getElem?_toList]; exact hP)
    show wpAny _ _ (letOwnedTupleGo (forTarget forD) (.ref It) (.int x t)) _ _ _
    refine wpAny_of_eq (a := ()) rfl (st_x hh (by rcases hn1 with ⟨_, h⟩ | h <;> simp [h]) I2.fr ?_)
    intro h3 k3 tt n3 hn3 K3 e3
    obtain ⟨nD1, nD2, nD3, nD4, nI1, nI2, nI3, nI4⟩ := I2.ne
    obtain ⟨v1, hc1⟩ := I2.c1; obtain ⟨v2, hc2⟩ := I2.c2; obtain ⟨v3, hc3⟩ := I2.c3; obtain ⟨tb1, ht1⟩ := I2.t1; obtain ⟨tb2, ht2⟩ := I2.t2; obtain ⟨d1, vs, nd, d2, d3⟩ := I2.done; obtain ⟨oI, hI⟩ := I2.it
    have n5 : ∀ {a : Addr}, a ≠ 525 → a ∉ [(525 : Addr)] := fun h => by simpa using h
    have I3 : Inv (pb w.params b1 b2) h3 D It { f1 with t7 := tt, x := .int x t } n3 (stepsL (zs.take i) os) ((zs.take i).map deedOf) :=
      I2.step (K3.mono m525) e3 ⟨_, K3 _ _ hc1 (by decide)⟩ ⟨_, K3 _ _ hc2 (by decide)⟩ ⟨_, K3 _ _ hc3 (by decide)⟩ ⟨_, K3 _ _ ht1 (by decide)⟩ ⟨_, K3 _ _ ht2 (by decide)⟩ ((K3 _ _ d2 (n5 nD1)).trans d2.symm) ((K3 _ _ hI (n5 nI1)).trans hI.symm) rfl rfl rfl
    have hdl525 : dl ≠ 525 := fun e => hdl (by simp [MM, e])
    refine deed_body hh hroom hfr I3 (by rcases hn3 with h | h <;> simp [h]) rfl (by rw [List.length_map, List.length_take]; omega) ?_
    intro s4 f4 R4 I4 it4 g4
    have e1 : zs.take (i + 1) = zs.take i ++ [x] := by rw [List.take_add_one, hx]; rfl
    refine ⟨zs.length - (i + 1), by omega, i + 1, f4, 13, by omega, rfl, .inr rfl, R1.trans (((Rel.of_kp K2).mono mI).trans (((Rel.of_kp K3).mono m525).trans R4)), ?_, g4.trans g1, ?_, ?_⟩
    · rw [e1, List.map_append]
      have : stepsL (zs.take i ++ [x]) os = stepL (deedOf x) (stepsL (zs.take i) os) := by unfold stepsL; rw [List.foldl_append]; rfl
      rw [this]; exact I4
    · have hIt3 := K3 _ _ hI (n5 nI1)
      exact st2.1.at fun o e => by rw [it4]; exact K3 _ _ e (n5 nI1)
    · exact st2.2.at fun o e => R4.heap _ _ (K3 _ _ e (n5 hdl525)) hdl
  · have hie : i = zs.length := by omega
    subst hie
    refine W.done s1 _ _ (by rw [hsz]; exact st1) fun h2 tk2 hK => ?_
    rw [List.take_length] at I1
    exact hR s1 f1 n1 h2 tk2 R1 (hn1.elim (fun h => absurd (List.length_eq_zero_iff.mp h.1) hz0) id) I1 g1 fun b o hb hn => hK b o hn hb
end
end Mine
end

section
open PySem PySem.W PySem.W.X PySem.Builtin PyProof.Rows
set_option maxRecDepth 100000
set_option linter.unusedVariables false
set_option linter.unusedSimpArgs false
namespace Mine
abbrev forU : Stmt := stmtAt lawB 6
section
variable {w : World} {b1 b2 : Bool} {A : Around} {s : Shared}
theorem un_assign (hh : A.handled = none) {L ca ck cm T K : Addr} {f : LF} {kd am g : Int} {tk ta tg : Tok} {v2 v3 : Option Value} {Q : Unit → Shared → Prop} {E : Value → Shared → Prop} (hnd : [T, L, ck, cm].Nodup) (hT : s.heap.get? T = some (tupO #[.int kd tk, .ref K, .int am ta, .int g tg]))
    (hL : s.heap.get? L = some (lawFr (pb w.params b1 b2) f 13)) (hck : s.heap.get? ck = some (cellO v2)) (hcm : s.heap.get? cm = some (cellO v3))
    (hQ : ∀ h' tk', Kp [L, ck, cm] s.heap h' → h'.get? L = some (lawFr (pb w.params b1 b2) { f with kind := .int kd tk, group := .int g tg } 13) → h'.get? ck = some (cellO (some (.ref K))) → h'.get? cm = some (cellO (some (.int am ta))) → Q () { s with heap := h', toks := tk' }) :
    wpAny (model prg (wb w b1 b2)) A (assign (forTarget forU) (lawEnv L ca ck cm) (.ref T)) Q E s := by
  refine wpAny_assign1 (any_fin hh [(T, tupO #[.int kd tk, .ref K, .int am ta, .int g tg]), (L, lawFr (pb w.params b1 b2) f 13), (ck, cellO v2), (cm, cellO v3)] 92 [0, 0, 0, 0, 0, 0, 0, 0, 0, 1, 0, 0, 0, 0, 0, 0, 1, 0, 0, 0, 0, 0, 0, 1, 0, 0, 0, 0, 0, 0, 1, 0, 0, 0, 0, 0, 0, 1, 0, 0, 0, 4, 4, 5, 5, 6, 6, 4, 4] (.done .next) [3, 4, 5, 6]
    [(T, tupO #[.int kd tk, .ref K, .int am ta, .int g tg]), (L, lawFr (pb w.params b1 b2) { f with kind := .int kd tk, group := .int g tg } 13), (ck, cellO (some (.ref K))), (cm, cellO (some (.int am ta)))] 3 2 True ?_ hnd (fun _ _ _ _ _ => by clear hQ; cases b2 <;> kernel_rfl) trivial (by decide) ?_)
  · simp only [List.mem_cons, List.not_mem_nil, or_false, forall_eq_or_imp, forall_eq]
    exact ⟨hT, hL, hck, hcm⟩
  intro h1 H1
  refine hQ _ _ (H1.kpM _ fun b hb => ?_) (H1.at 1 rfl) (H1.at 2 rfl) (H1.at 3 rfl)
  have : b ∈ [T, L, ck, cm] := hb
  simp only [List.mem_cons, List.not_mem_nil, or_false] at this
  rcases this with g | g | g | g
  · exact .inr (by rw [g]; exact ⟨_, hT, by simp⟩)
  · exact .inl (by rw [g]; simp)
  · exact .inl (by rw [g]; simp)
  · exact .inl (by rw [g]; simp)
variable {Q : Flow → Shared → Prop} {E : Value → Shared → Prop}
theorem un_0 (hh : A.handled = none) (hroom : A.depth + 4 < recursionLimit) {L ca ck cm K : Addr} {f : LF} {nn : Nat} {t t2 u0 : Tok} {k0 : Int} {tb : Option Addr} {os : List Int} (hlo : ∀ a ∈ [L, ck, K], 524 ≤ a) (hnd : [L, ck, K].Nodup)
    (F : Fix (pb w.params b1 b2) s.heap) (T : s.heap.get? 319 = some (tabO (genPos xoneGen) tb)) (hf_kind : f.kind = .int 0 t) (hf_data : f.data = .bytes (byteArr os) t2)
    (hL : s.heap.get? L = some (lawFr (pb w.params b1 b2) f 13)) (hck : s.heap.get? ck = some (cellO (some (.ref K)))) (hK : s.heap.get? K = some (lstO #[.int k0 u0] nn))
    (hr : ∀ n ∈ os, 0 ≤ n ∧ n < 256) (hos : os.length ≤ 8) (hkey : ∀ n ∈ os, 0 ≤ Builtin.bitXor n k0 ∧ Builtin.bitXor n k0 < 256)
    (hQ : ∀ s' t' c, Rel [L, 319] s s' → s'.heap.get? L = some (lawFr (pb w.params b1 b2) { f with data := .bytes (byteArr (os.map fun o => Builtin.bitXor o k0)) t' } 13) → s'.heap.get? 319 = some (tabO (genPos xoneGen) (some c)) → Q .next s') :
    wpAny (model prg (wb w b1 b2)) A (execs uB (lawEnv L ca ck cm)) Q E s := by
  have hfe : f = { f with kind := .int 0 t, data := .bytes (byteArr os) t2 } := by cases f; cases hf_kind; cases hf_data; rfl
  have hsz : 524 ≤ s.heap.objs.size := Nat.le_of_lt (Nat.lt_of_le_of_lt (hlo L (by simp)) (Heap.lt_size hL))
  have hnd' := nd_fix (cs := [3, 449, 2, 448, 326, 324]) hnd hlo
  have h319 : L ≠ 319 := ne_lo (hlo L (by simp)) 319
  have hL1 : s.heap.get? L = some (lawFr (pb w.params b1 b2) { f with kind := .int 0 t, data := .bytes (byteArr os) t2 } 13) := by rw [hL]; exact congrArg some (congrArg (fun f => lawFr (pb w.params b1 b2) f 13) hfe)
  refine wpAny_execs1 (enter_any hh fun c own below past p hIn => ?_)
  refine go_call hIn [(L, lawFr (pb w.params b1 b2) { f with kind := .int 0 t, data := .bytes (byteArr os) t2 } 13), (ck, cellO (some (.ref K))), (K, lstO #[.int k0 u0] nn), (3, ob3 (pb w.params b1 b2)), (449, ob449 (pb w.params b1 b2)), (2, ob2 (pb w.params b1 b2)), (448, ob448 (pb w.params b1 b2)), (326, ob326 (pb w.params b1 b2)), (324, ob324)]
    44 [0, 3, 4, 4, 4, 5, 4, 4, 4, 6, 7, 7, 7, 7, 0, 1, 2, 2, 2, 2, 8] (.call (.ref 324) ⟨[.bytes (byteArr os) t2, .int k0 u0], []⟩) [0, 1, 2, 3, 4, 5, 6, 7, 8]
    [(L, lawFr (pb w.params b1 b2) { f with kind := .int 0 t, data := .bytes (byteArr os) t2 } 13), (ck, cellO (some (.ref K))), (K, lstO #[.int k0 u0] nn), (3, ob3 (pb w.params b1 b2)), (449, ob449 (pb w.params b1 b2)), (2, ob2 (pb w.params b1 b2)), (448, ob448 (pb w.params b1 b2)), (326, ob326 (pb w.params b1 b2)), (324, ob324)] 0 3
    ((Value.type "list" = .type "list" ∧ (0 : Int) ≤ 0 ∧ (0 : Int) ≤ 1000 ∧ (#[.int k0 u0] : Array Value)[(0 : Int).toNat]? = some (.int k0 u0)) ∧ True) ?_ hnd' (by clear hQ; cases b2 <;> kernel_rfl) ⟨⟨rfl, by decide, by decide, rfl⟩, trivial⟩ (by decide) ?_
  · simp only [List.mem_cons, List.not_mem_nil, or_false, forall_eq_or_imp, forall_eq]
    exact ⟨hL1, hck, hK, F.get 2, F.get 14, F.get 1, F.get 13, F.get 10, F.get 7⟩
  intro h1 H1 A' hA' hh'
  have hAA : A' = A := by rw [hA']; cases b2 <;> kernel_rfl
  subst hAA
  have nil : ∀ a : Addr, a ∉ ([] : List Addr) := fun a => by simp
  have K1 : Kp [] s.heap h1 := H1.kpM _ fun b hb => by
    have : b ∈ [L, ck, K, 3, 449, 2, 448, 326, 324] := hb
    simp only [List.mem_cons, List.not_mem_nil, or_false] at this
    rcases this with g | g | g | g | g | g | g | g | g
    · exact .inr (by rw [g]; exact ⟨_, hL1, by simp⟩)
    · exact .inr (by rw [g]; exact ⟨_, hck, by simp⟩)
    · exact .inr (by rw [g]; exact ⟨_, hK, by simp⟩)
    · exact .inr (by rw [g]; exact ⟨_, F.get 2, by simp⟩)
    · exact .inr (by rw [g]; exact ⟨_, F.get 14, by simp⟩)
    · exact .inr (by rw [g]; exact ⟨_, F.get 1, by simp⟩)
    · exact .inr (by rw [g]; exact ⟨_, F.get 13, by simp⟩)
    · exact .inr (by rw [g]; exact ⟨_, F.get 10, by simp⟩)
    · exact .inr (by rw [g]; exact ⟨_, F.get 7, by simp⟩)
  refine xone_call hh hroom (Nat.le_trans hsz (by rw [H1.size]; exact Nat.le_refl _)) (F.keep K1 (fun a ha => by cases ha)) (K1 _ _ T (nil _)) (.inl ⟨_, rfl⟩) hr hos hkey ?_
  intro s' t' c' R1 T1
  have hL2 := R1.heap _ _ (H1.at 0 rfl) (by simpa using h319)
  refine go_fin [(L, lawFr (pb w.params b1 b2) { f with kind := .int 0 t, data := .bytes (byteArr os) t2 } 13)] 8 [0, 0] (.pure (.done .next)) [0] [(L, lawFr (pb w.params b1 b2) { f with kind := .int 0 t, data := .bytes (byteArr (os.map fun o => Builtin.bitXor o k0)) t' } 13)] 0 1 True (by simpa using hL2) (by simp) (by clear hQ; cases b2 <;> kernel_rfl) trivial (by decide) ?_
  intro h2 p' H2
  have K2 : Kp [L] s'.heap h2 := H2.kpM _ fun b hb => .inl hb
  exact base_done' (hQ _ t' c' (((Rel.of_kp K1).mono (fun _ h => by cases h)).trans ((R1.mono (fun x h => by simp at h; simp [h])).trans ((Rel.of_kp K2).mono (fun x h => by simp at h; simp [h])))) ((H2.at 0 rfl).trans (congrArg some (congrArg (fun z => lawFr (pb w.params b1 b2) z 13) (by cases f; cases hf_kind; cases hf_data; rfl)))) (K2 _ _ T1 (by simpa using h319.symm)))
theorem un_1 (hh : A.handled = none) (hroom : A.depth + 4 < recursionLimit) {L ca ck cm K : Addr} {f : LF} {t t2 : Tok} {tb : Option Addr} {os ks ns : List Int} (hlo : ∀ a ∈ [L, ck], 524 ≤ a) (hnd : [L, ck].Nodup)
    (F : Fix (pb w.params b1 b2) s.heap) (T : s.heap.get? 329 = some (tabO (genPos xmanyGen) tb)) (hf_kind : f.kind = .int 1 t) (hf_data : f.data = .bytes (byteArr os) t2)
    (hL : s.heap.get? L = some (lawFr (pb w.params b1 b2) f 13)) (hck : s.heap.get? ck = some (cellO (some (.ref K)))) (hK : KeyIs s.heap K ks)
    (hr : ∀ n ∈ os, 0 ≤ n ∧ n < 256) (hrk : ∀ n ∈ ks, 0 ≤ n ∧ n < 256) (hos : os.length ≤ 8) (hk0 : ks ≠ []) (hk5 : ks.length ≤ 5) (hns : ns.length = os.length) (hnv : ∀ i, i < os.length → ns.getD i 0 = Builtin.bitXor (os.getD i 0) ((repInts ks os.length).getD i 0)) (hnr : ∀ n ∈ ns, 0 ≤ n ∧ n < 256)
    (hQ : ∀ s' t' c, Rel [L, 329] s s' → s'.heap.get? L = some (lawFr (pb w.params b1 b2) { f with data := .bytes (byteArr ns) t' } 13) → s'.heap.get? 329 = some (tabO (genPos xmanyGen) (some c)) → Q .next s') :
    wpAny (model prg (wb w b1 b2)) A (execs uB (lawEnv L ca ck cm)) Q E s := by
  have hfe : f = { f with kind := .int 1 t, data := .bytes (byteArr os) t2 } := by cases f; cases hf_kind; cases hf_data; rfl
  have hsz : 524 ≤ s.heap.objs.size := Nat.le_of_lt (Nat.lt_of_le_of_lt (hlo L (by simp)) (Heap.lt_size hL))
  have hnd' := nd_fix (cs := [3, 0, 449, 2, 448, 336]) hnd hlo
  have h329 : L ≠ 329 := ne_lo (hlo L (by simp)) 329
  have nil : ∀ a : Addr, a ∉ ([] : List Addr) := fun a => by simp
  obtain ⟨vs, nn, hKg, hKi⟩ := hK
  have hL1 : s.heap.get? L = some (lawFr (pb w.params b1 b2) { f with kind := .int 1 t, data := .bytes (byteArr os) t2 } 13) := by rw [hL]; exact congrArg some (congrArg (fun f => lawFr (pb w.params b1 b2) f 13) hfe)
  refine wpAny_execs1 (enter_any hh fun c own below past p hIn => ?_)
  refine go_callV hIn [(L, lawFr (pb w.params b1 b2) { f with kind := .int 1 t, data := .bytes (byteArr os) t2 } 13), (ck, cellO (some (.ref K))), (3, ob3 (pb w.params b1 b2)), (0, ob0 (pb w.params b1 b2)), (449, ob449 (pb w.params b1 b2)), (2, ob2 (pb w.params b1 b2)), (448, ob448 (pb w.params b1 b2)), (336, ob336 (pb w.params b1 b2))]
    49 [0, 0, 2, 4, 4, 4, 5, 4, 4, 4, 6, 7, 7, 7, 7, 0, 2, 3, 1] (.type "bytes") [.ref K] [0, 1, 2, 3, 4, 5, 6, 7]
    [(L, lawFr (pb w.params b1 b2) { f with kind := .int 1 t, data := .bytes (byteArr os) t2 } 13), (ck, cellO (some (.ref K))), (3, ob3 (pb w.params b1 b2)), (0, ob0 (pb w.params b1 b2)), (449, ob449 (pb w.params b1 b2)), (2, ob2 (pb w.params b1 b2)), (448, ob448 (pb w.params b1 b2)), (336, ob336 (pb w.params b1 b2))] 0 3 True ?_ hnd' (by clear hQ; cases b2 <;> kernel_rfl) trivial (by decide) ?_
  · simp only [List.mem_cons, List.not_mem_nil, or_false, forall_eq_or_imp, forall_eq]
    exact ⟨hL1, hck, F.get 2, F.get 0, F.get 14, F.get 1, F.get 13, F.get 11⟩
  intro h1 H1 A' hA' hh'
  have hAA : A' = A := by rw [hA']; cases b2 <;> kernel_rfl
  subst hAA
  have K1 : Kp [] s.heap h1 := H1.kpM _ fun b hb => by
    have : b ∈ [L, ck, 3, 0, 449, 2, 448, 336] := hb
    simp only [List.mem_cons, List.not_mem_nil, or_false] at this
    rcases this with g | g | g | g | g | g | g | g
    · exact .inr (by rw [g]; exact ⟨_, hL1, by simp⟩)
    · exact .inr (by rw [g]; exact ⟨_, hck, by simp⟩)
    · exact .inr (by rw [g]; exact ⟨_, F.get 2, by simp⟩)
    · exact .inr (by rw [g]; exact ⟨_, F.get 0, by simp⟩)
    · exact .inr (by rw [g]; exact ⟨_, F.get 14, by simp⟩)
    · exact .inr (by rw [g]; exact ⟨_, F.get 1, by simp⟩)
    · exact .inr (by rw [g]; exact ⟨_, F.get 13, by simp⟩)
    · exact .inr (by rw [g]; exact ⟨_, F.get 11, by simp⟩)
  have F1 := F.keep K1 (fun a ha => by cases ha)
  refine call_bytes_ints (l := K) (vs := vs.toList) (ns := ks) ⟨_, K1 _ _ hKg (nil _), rfl, nn, rfl⟩ hKi hrk (by rw [hKi.length]; exact Nat.le_trans hk5 (by decide +kernel)) hh ?_
  intro h2 tk k2 hk
  have K2 : Kp [] h1 h2 := fun b o e _ => hk b o e
  have F2 := F1.keep K2 (fun a ha => by cases ha)
  refine go_call hIn [(334, ob334)] 3 [0] (.call (.ref 334) ⟨[.bytes (byteArr os) t2, .bytes (byteArr ks) tk], []⟩) [0] [(334, ob334)] 0 0 True ?_ (by simp) (by clear hQ; cases b2 <;> kernel_rfl) trivial (by decide) ?_
  · simpa using F2.get 8
  intro h3 H3 A'' hA'' hh''
  have hAA : A'' = A' := by rw [hA'']; cases b2 <;> kernel_rfl
  subst hAA
  have K3 : Kp [] h2 h3 := H3.kpM _ fun b hb => .inr (by rw [List.mem_singleton.mp (show b ∈ [(334 : Addr)] from hb)]; exact ⟨_, F2.get 8, by simp⟩)
  have K03 := K1.trans (K2.trans K3)
  have hsz2 : 524 ≤ h3.objs.size := Nat.le_of_lt (Nat.lt_of_le_of_lt (hlo L (by simp)) (Heap.lt_size (K03 _ _ hL1 (nil _))))
  refine xmany_call hh hroom (ns := ns) hsz2 (F.keep K03 (fun a ha => by cases ha)) (K03 _ _ T (nil _)) (.inl ⟨_, rfl⟩) hr hrk (fun a ha => by cases ha) hos hk0 hk5 hns hnv hnr ?_
  intro s' t' c' R1 T1
  have hL2 := R1.heap _ _ (K03 _ _ hL1 (nil _)) (by simpa using h329)
  refine go_fin [(L, lawFr (pb w.params b1 b2) { f with kind := .int 1 t, data := .bytes (byteArr os) t2 } 13)] 8 [0, 0] (.pure (.done .next)) [0] [(L, lawFr (pb w.params b1 b2) { f with kind := .int 1 t, data := .bytes (byteArr ns) t' } 13)] 0 1 True (by simpa using hL2) (by simp) (by clear hQ; cases b2 <;> kernel_rfl) trivial (by decide) ?_
  intro h4 p' H4
  have K4 : Kp [L] s'.heap h4 := H4.kpM _ fun b hb => .inl hb
  exact base_done' (hQ _ t' c' (((Rel.of_kp K03).mono (fun _ h => by cases h)).trans ((R1.mono (fun x h => by simp at h; simp [h])).trans ((Rel.of_kp K4).mono (fun x h => by simp at h; simp [h])))) ((H4.at 0 rfl).trans (congrArg some (congrArg (fun z => lawFr (pb w.params b1 b2) z 13) (by cases f; cases hf_kind; cases hf_data; rfl)))) (K4 _ _ T1 (by simpa using h329.symm)))
theorem un_2 (hh : A.handled = none) (hroom : A.depth < recursionLimit) {L ca ck cm : Addr} {f : LF} {t t2 ta tg : Tok} {kd am : Int} {os : List Int} (hlo : ∀ a ∈ [L, cm], 524 ≤ a) (hnd : [L, cm].Nodup)
    (F : Fix (pb w.params b1 b2) s.heap) (hkd : kd = 2 ∨ kd = 3) (hf_kind : f.kind = .int kd t) (hf_group : f.group = .int 1 tg) (hf_data : f.data = .bytes (byteArr os) t2)
    (hL : s.heap.get? L = some (lawFr (pb w.params b1 b2) f 13)) (hcm : s.heap.get? cm = some (cellO (some (.int am ta))))
    (hr : ∀ n ∈ os, 0 ≤ n ∧ n < 256) (hos : os.length ≤ 8) (ha : 0 ≤ am ∧ am ≤ 8) (hv : ∀ x ∈ os, 0 ≤ rotV (8 - am) (Int.fmod (-(8 - am)) 8) x ∧ rotV (8 - am) (Int.fmod (-(8 - am)) 8) x < 256)
    (hQ : ∀ h' tk t', Kp [L] s.heap h' → h'.get? L = some (lawFr (pb w.params b1 b2) { f with data := .bytes (byteArr (os.map (rotV (8 - am) (Int.fmod (-(8 - am)) 8)))) t' } 13) → Q .next { s with heap := h', toks := tk }) :
    wpF (model prg (wb w b1 b2)) A (execs uB (lawEnv L ca ck cm)) Q E s := by
  have hsz : 524 ≤ s.heap.objs.size := Nat.le_of_lt (Nat.lt_of_le_of_lt (hlo L (by simp)) (Heap.lt_size hL))
  have nil : ∀ a : Addr, a ∉ ([] : List Addr) := fun a => by simp
  have hfe : f = { f with kind := .int kd t, group := .int 1 tg, data := .bytes (byteArr os) t2 } := by cases f; cases hf_kind; cases hf_group; cases hf_data; rfl
  have hL1 : s.heap.get? L = some (lawFr (pb w.params b1 b2) { f with kind := .int kd t, group := .int 1 tg, data := .bytes (byteArr os) t2 } 13) := by rw [hL]; exact congrArg some (congrArg (fun f => lawFr (pb w.params b1 b2) f 13) hfe)
  have hled : ∀ x ∈ [(L, lawFr (pb w.params b1 b2) { f with kind := .int kd t, group := .int 1 tg, data := .bytes (byteArr os) t2 } 13), (cm, cellO (some (.int am ta))), (3, ob3 (pb w.params b1 b2)), (449, ob449 (pb w.params b1 b2)), (2, ob2 (pb w.params b1 b2)), (448, ob448 (pb w.params b1 b2)), (346, ob346 (pb w.params b1 b2)), (344, ob344)], s.heap.get? x.1 = some x.2 := by
    simp only [List.mem_cons, List.not_mem_nil, or_false, forall_eq_or_imp, forall_eq]
    exact ⟨hL1, hcm, F.get 2, F.get 14, F.get 1, F.get 13, F.get 12, F.get 9⟩
  refine wpF_execs1l (enter_f hh fun c own below past p hIn hF => ?_)
  refine go_callF hIn hF [(L, lawFr (pb w.params b1 b2) { f with kind := .int kd t, group := .int 1 tg, data := .bytes (byteArr os) t2 } 13), (cm, cellO (some (.int am ta))), (3, ob3 (pb w.params b1 b2)), (449, ob449 (pb w.params b1 b2)), (2, ob2 (pb w.params b1 b2)), (448, ob448 (pb w.params b1 b2)), (346, ob346 (pb w.params b1 b2)), (344, ob344)]
    63 [0, 0, 0, 2, 3, 3, 3, 4, 3, 3, 3, 5, 6, 6, 6, 6, 0, 1, 7] (.call (.ref 344) ⟨[.bytes (byteArr os) t2, .int (8 - am) (s.toks + 5), .int 1 (s.toks + 6)], []⟩) [0, 1, 2, 3, 4, 5, 6, 7]
    [(L, lawFr (pb w.params b1 b2) { f with kind := .int kd t, group := .int 1 tg, data := .bytes (byteArr os) t2 } 13), (cm, cellO (some (.int am ta))), (3, ob3 (pb w.params b1 b2)), (449, ob449 (pb w.params b1 b2)), (2, ob2 (pb w.params b1 b2)), (448, ob448 (pb w.params b1 b2)), (346, ob346 (pb w.params b1 b2)), (344, ob344)] 0 7 True hled
    (nd_fix (cs := [3, 449, 2, 448, 346, 344]) hnd hlo) (by clear hQ hL hL1 hled; rcases hkd with rfl | rfl <;> cases b2 <;> kernel_rfl) trivial (by decide) ?_
  intro h1 H1 A' hA' hh'
  have hAA : A' = A := by clear hQ hL hL1 hled H1; rw [hA']; rcases hkd with rfl | rfl <;> cases b2 <;> kernel_rfl
  subst hAA
  have K1 : Kp [] s.heap h1 := H1.kpM _ fun b hb => by
    have : b ∈ [L, cm, 3, 449, 2, 448, 346, 344] := hb
    simp only [List.mem_cons, List.not_mem_nil, or_false] at this
    rcases this with g | g | g | g | g | g | g | g
    · exact .inr (by rw [g]; exact ⟨_, hL1, by simp⟩)
    · exact .inr (by rw [g]; exact ⟨_, hcm, by simp⟩)
    · exact .inr (by rw [g]; exact ⟨_, F.get 2, by simp⟩)
    · exact .inr (by rw [g]; exact ⟨_, F.get 14, by simp⟩)
    · exact .inr (by rw [g]; exact ⟨_, F.get 1, by simp⟩)
    · exact .inr (by rw [g]; exact ⟨_, F.get 13, by simp⟩)
    · exact .inr (by rw [g]; exact ⟨_, F.get 12, by simp⟩)
    · exact .inr (by rw [g]; exact ⟨_, F.get 9, by simp⟩)
  have hsz1 : 524 ≤ h1.objs.size := by rw [H1.size]; exact hsz
  have F1 := F.keep K1 (fun a ha => by cases ha)
  refine rot_call hh hroom hsz1 F1 (.inl ⟨_, rfl⟩) (fun a e => by cases e) hr hos (by omega) hv ?_
  intro h2 tk2 t' K2
  have hL2 := K2 _ _ (H1.at 0 rfl) (nil _)
  refine go_fin [(L, lawFr (pb w.params b1 b2) { f with kind := .int kd t, group := .int 1 tg, data := .bytes (byteArr os) t2 } 13)] 8 [0, 0] (.pure (.done .next)) [0] [(L, lawFr (pb w.params b1 b2) { f with kind := .int kd t, group := .int 1 tg, data := .bytes (byteArr (os.map (rotV (8 - am) (Int.fmod (-(8 - am)) 8)))) t' } 13)] 0 1 True (by simpa using hL2) (by simp) (by clear hQ hL hL1 hled hL2 H1; rcases hkd with rfl | rfl <;> cases b2 <;> kernel_rfl) trivial (by decide) ?_
  intro h3 p' H3
  have K3 : Kp [L] h2 h3 := H3.kpM _ fun b hb => .inl hb
  exact base_done' (hQ h3 _ t' ((K1.mono (fun _ h => by cases h)).trans ((K2.mono (fun _ h => by cases h)).trans K3)) ((H3.at 0 rfl).trans (congrArg some (congrArg (fun z => lawFr (pb w.params b1 b2) z 13) (by cases f; cases hf_kind; cases hf_group; cases hf_data; rfl)))))
theorem un_n (hh : A.handled = none) {L ca ck cm : Addr} {f : LF} {t tg : Tok} {g : Int} (hg : BadG g) (hf_kind : f.kind = .int 3 t) (hf_group : f.group = .int g tg)
    (hL : s.heap.get? L = some (lawFr (pb w.params b1 b2) f 13)) (hQ : ∀ h' tk, Kp [] s.heap h' → Q .next { s with heap := h', toks := tk }) :
    wpAny (model prg (wb w b1 b2)) A (execs uB (lawEnv L ca ck cm)) Q E s := by
  have hfe : f = { f with kind := .int 3 t, group := .int g tg } := by cases f; cases hf_kind; cases hf_group; rfl
  have hL1 : s.heap.get? L = some (lawFr (pb w.params b1 b2) { f with kind := .int 3 t, group := .int g tg } 13) := by rw [hL]; exact congrArg some (congrArg (fun f => lawFr (pb w.params b1 b2) f 13) hfe)
  refine wpAny_execs1 (any_fin hh [(L, lawFr (pb w.params b1 b2) { f with kind := .int 3 t, group := .int g tg } 13)] 27 [0, 0, 0] (.done .next) [0] [(L, lawFr (pb w.params b1 b2) { f with kind := .int 3 t, group := .int g tg } 13)] 0 3 True (by simpa using hL1) (by simp) (fun _ _ _ _ _ => by clear hQ hL hL1; rcases hg with rfl | rfl | rfl | rfl | rfl | rfl | rfl | rfl | rfl <;> cases b2 <;> kernel_rfl) trivial (by decide) ?_)
  intro h1 H1
  exact hQ _ _ (H1.kpM _ fun b hb => .inr (by rw [List.mem_singleton.mp (show b ∈ [L] from hb)]; exact ⟨_, hL1, by simp⟩))
end
end Mine
end

section
open PySem PySem.W PySem.W.X PySem.Builtin PyProof.Rows
set_option maxRecDepth 100000
set_option linter.unusedVariables false
set_option linter.unusedSimpArgs false
namespace Mine
def stepsD (ds : List Deed) (os : List Int) : List Int := ds.foldl (fun os d => stepL d os) os
theorem stepsL_eq : ∀ (zs : List Int) (os : List Int), stepsL zs os = stepsD (zs.map deedOf) os
  | [], _ => rfl
  | z :: zs, os => stepsL_eq zs (stepL (deedOf z) os)
theorem stepsD_snoc (ds : List Deed) (d : Deed) (os : List Int) : stepsD (ds ++ [d]) os = stepL d (stepsD ds os) := by
  unfold stepsD; rw [List.foldl_append]; rfl
theorem stepsD_len : ∀ (ds : List Deed) (os : List Int), (stepsD ds os).length = os.length
  | [], _ => rfl
  | d :: ds, os => (stepsD_len ds (stepL d os)).trans (step_len d os)
theorem stepsD_oct : ∀ (ds : List Deed) (os : List Int), (∀ d ∈ ds, DeedOk d) → (∀ o ∈ os, 0 ≤ o ∧ o < 256) → ∀ o ∈ stepsD ds os, 0 ≤ o ∧ o < 256
  | [], _, _, h => h
  | d :: ds, os, hd, h => stepsD_oct ds (stepL d os) (fun x hx => hd x (.tail _ hx)) (step_oct (hd d (.head _)) h)
structure UInv (P : Params) (h : Heap) (D It : Addr) (f : LF) (os : List Int) (vs : Array Value) (ds : List Deed) : Prop where
  fix : Fix P h
  t1 : ∃ tb, h.get? 319 = some (tabO (genPos xoneGen) tb)
  t2 : ∃ tb, h.get? 329 = some (tabO (genPos xmanyGen) tb)
  fr : h.get? 525 = some (lawFr P f 13)
  c2 : ∃ v, h.get? 527 = some (cellO v)
  c3 : ∃ v, h.get? 528 = some (cellO v)
  data : ∃ t, f.data = .bytes (byteArr os) t
  dn : DoneAre h (· ∉ MM D It) vs.toList ds
  d5 : 524 ≤ D
  i5 : 524 ≤ It
  nI : It ≠ 525 ∧ It ≠ 527 ∧ It ≠ 528
  nD : D ≠ 525 ∧ D ≠ 527 ∧ D ≠ 528
  len : os.length ≤ 8
  oct : ∀ o ∈ os, 0 ≤ o ∧ o < 256
theorem done_get {h : Heap} {N : Addr → Prop} : ∀ {vs : List Value} {ds : List Deed}, DoneAre h N vs ds → ∀ {i : Nat} {v : Value}, vs[i]? = some v → ∃ d, ds[i]? = some d ∧ DeedAt h N v d
  | _, _, .nil, i, v, e => by simp at e
  | _, _, .cons a b, 0, v, e => by simp at e; subst e; exact ⟨_, rfl, a⟩
  | _, _, .cons a b, i + 1, v, e => by
    rw [List.getElem?_cons_succ] at e
    obtain ⟨d, x, y⟩ := done_get b e
    exact ⟨d, by rw [List.getElem?_cons_succ]; exact x, y⟩
theorem UInv.step {P : Params} {h h' : Heap} {D It : Addr} {f f' : LF} {os os' : List Int} {vs : Array Value} {ds : List Deed} (I : UInv P h D It f os vs ds) (K : Kp (MM D It) h h') (t1 : ∃ tb, h'.get? 319 = some (tabO (genPos xoneGen) tb)) (t2 : ∃ tb, h'.get? 329 = some (tabO (genPos xmanyGen) tb)) (e : h'.get? 525 = some (lawFr P f' 13)) (c2 : ∃ v, h'.get? 527 = some (cellO v)) (c3 : ∃ v, h'.get? 528 = some (cellO v))
    (hd : ∃ t, f'.data = .bytes (byteArr os') t) (hl : os'.length ≤ 8) (ho : ∀ o ∈ os', 0 ≤ o ∧ o < 256) : UInv P h' D It f' os' vs ds :=
  ⟨I.fix.keepX K (mm_fix D It I.d5 I.i5), t1, t2, e, c2, c3, hd, I.dn.keep K, I.d5, I.i5, I.nI, I.nD, hl, ho⟩
section
variable {w : World} {b1 b2 : Bool} {A : Around} {s : Shared}
theorem letGo_rev {D It : Addr} {i : Int} {v : Value} {Q : Unit → Shared → Prop} {E : Value → Shared → Prop} (hit : s.heap.IsRevIter It D i) (hQ : Q () s) : wpAny (model prg (wb w b1 b2)) A (letOwnedTupleGo (forTarget forU) (.ref It) v) Q E s := by
  cases v with
  | ref a =>
    obtain ⟨o, ho, hc, hd⟩ := hit
    show wpAny _ _ (load It >>= _) _ _ _
    refine wpAny_bind (wpAny_load ho ?_)
    rw [hc, hd]
    show wpAny _ _ (if (["enumerate", "zip", "dict_itemiterator", "dict_reverseitemiterator", "odict_iterator", "itertools.zip_longest", "itertools.pairwise"].contains "list_reverseiterator" && _) = true then _ else _) _ _ _
    rw [show ["enumerate", "zip", "dict_itemiterator", "dict_reverseitemiterator", "odict_iterator", "itertools.zip_longest", "itertools.pairwise"].contains "list_reverseiterator" = false by decide +kernel]
    exact wpAny_pure hQ
  | _ => exact wpAny_pure hQ
theorem undo_code (hh : A.handled = none) (hroom : A.depth + 4 < recursionLimit) {D It : Addr} {f : LF} {os : List Int} {vs : Array Value} {ds : List Deed} {R : Result → Shared → Prop} (hok : ∀ d ∈ ds, DeedOk d) (ho : ∀ o ∈ os, 0 ≤ o ∧ o < 256) (hol : os.length ≤ 8) (I : UInv (pb w.params b1 b2) s.heap D It f (stepsD ds os) vs ds)
    (hDI : D ≠ It) (hit : s.heap.IsRevIter It D ((vs.size : Int) - 1)) (hl : s.heap.IsList D vs)
    (hR : ∀ s' f' h2 tk, Rel (MM D It) s s' → UInv (pb w.params b1 b2) s'.heap D It f' os vs ds → f'.first = f.first → Kp [It] s'.heap h2 → R (.ok .next) { s' with heap := h2, toks := tk }) :
    codeF (model prg (wb w b1 b2)) A (.forLoop (forTarget forU) (.ref It) uB [] LE) R s := by
  have hsz : vs.size = ds.length := by have := I.dn.len; rwa [Array.length_toList] at this
  have W := Walks.listRev (prog := prg) (w := wb w b1 b2) hh It D hDI vs
  have mI : ∀ x ∈ [It], x ∈ MM D It := by simp [MM]
  have m525 : ∀ x ∈ [(525 : Addr)], x ∈ MM D It := by simp [MM]
  have m3 : ∀ x ∈ [(525 : Addr), 527, 528], x ∈ MM D It := by simp [MM]
  have m1 : ∀ x ∈ [(525 : Addr), 319], x ∈ MM D It := by simp [MM]
  have m2 : ∀ x ∈ [(525 : Addr), 329], x ∈ MM D It := by simp [MM]
  refine codeF_forLoop (fun k s' => ∃ i f', i ≤ ds.length ∧ k = ds.length - i ∧ Rel (MM D It) s s' ∧ UInv (pb w.params b1 b2) s'.heap D It f' (stepsD (ds.take (ds.length - i)) os) vs ds ∧ f'.first = f.first ∧ (i ≤ vs.size ∧ s'.heap.IsRevIter It D ((vs.size : Int) - 1 - (i : Int)) ∧ s'.heap.IsList D vs)) ?_ ds.length
    ⟨0, f, Nat.zero_le _, by simp, ⟨Kp.refl _ _, fun h => h, rfl, rfl⟩, by simpa using I, rfl, Nat.zero_le _, by simpa using hit, hl⟩
  rintro k s1 ⟨i, f1, hi, rfl, R1, I1, g1, st1⟩
  have itstep : ∀ {h2 : Heap}, Kp [It] s1.heap h2 → UInv (pb w.params b1 b2) h2 D It f1 (stepsD (ds.take (ds.length - i)) os) vs ds := fun {h2} K2 => by
    obtain ⟨v2, hc2⟩ := I1.c2; obtain ⟨v3, hc3⟩ := I1.c3; obtain ⟨tb1, ht1⟩ := I1.t1; obtain ⟨tb2, ht2⟩ := I1.t2
    have nI : ∀ {a : Addr}, a ≠ It → a ∉ [It] := fun h => by simpa using h
    have n319 : (319 : Addr) ≠ It := fun e => by have := I1.i5; rw [← e] at this; exact absurd this (by decide)
    have n329 : (329 : Addr) ≠ It := fun e => by have := I1.i5; rw [← e] at this; exact absurd this (by decide)
    exact I1.step (K2.mono mI) ⟨_, K2 _ _ ht1 (nI n319)⟩ ⟨_, K2 _ _ ht2 (nI n329)⟩ (K2 _ _ I1.fr (nI I1.nI.1.symm)) ⟨_, K2 _ _ hc2 (nI I1.nI.2.1.symm)⟩ ⟨_, K2 _ _ hc3 (nI I1.nI.2.2.symm)⟩ I1.data I1.len I1.oct
  by_cases hlt : i < ds.length
  · refine W.item i s1 _ _ (by rw [hsz]; exact hlt) st1 fun v h2 tk2 hP st2 hK => ?_
    have K2 : Kp [It] s1.heap h2 := fun b o hb hn => hK b o hn hb
    have I2 := itstep K2
    obtain ⟨d, hd, T, K, tk, ta, tg, rfl, hTM, hKM, hK5, hT, hKi⟩ := done_get I2.dn (by rw [Array.getElem?_toList]; exact hP)
    rw [hsz] at hd
    have hdm : d ∈ ds := List.mem_of_getElem? hd
    have dok := hok d hdm
    have etake : ds.take (ds.length - i) = ds.take (ds.length - (i + 1)) ++ [d] := by
      have e : ds.length - i = (ds.length - 1 - i) + 1 := by omega
      rw [e, List.take_add_one, hd]
      rw [show ds.length - (i + 1) = ds.length - 1 - i by omega]
      rfl
    generalize hprev : stepsD (ds.take (ds.length - (i + 1))) os = osp
    have ecur : stepsD (ds.take (ds.length - i)) os = stepL d osp := by rw [etake, stepsD_snoc, hprev]
    have hopp : ∀ o ∈ osp, 0 ≤ o ∧ o < 256 := by rw [← hprev]; exact stepsD_oct _ _ (fun x hx => hok x (List.mem_of_mem_take hx)) ho
    have hlp : osp.length ≤ 8 := by rw [← hprev, stepsD_len]; exact hol
    rw [ecur] at I2
    have eundo := undo_step dok hopp
    obtain ⟨v2, hc2⟩ := I2.c2; obtain ⟨v3, hc3⟩ := I2.c3; obtain ⟨tb1, ht1⟩ := I2.t1; obtain ⟨tb2, ht2⟩ := I2.t2
    obtain ⟨td, hdat⟩ := I2.data
    show wpAny _ _ (letOwnedTupleGo (forTarget forU) (.ref It) (.ref T)) _ _ _
    refine letGo_rev st2.2.1 ?_
    have hnT : ([T, 525, 527, 528] : List Addr).Nodup := by
      have h1 : T ≠ 525 := fun e => hTM (by simp [MM, e])
      have h2 : T ≠ 527 := fun e => hTM (by simp [MM, e])
      have h3 : T ≠ 528 := fun e => hTM (by simp [MM, e])
      simp [h1, h2, h3]
    refine un_assign hh hnT hT I2.fr hc2 hc3 ?_
    intro h3 k3 K3 e3 b3 c3
    have nM3 : ∀ {a : Addr}, a ∉ MM D It → a ∉ ([525, 527, 528] : List Addr) := fun h hm => h (m3 _ hm)
    have I3 : UInv (pb w.params b1 b2) h3 D It { f1 with kind := .int d.kd tk, group := .int d.g tg } (stepL d osp) vs ds := I2.step (K3.mono m3) ⟨_, K3 _ _ ht1 (by decide)⟩ ⟨_, K3 _ _ ht2 (by decide)⟩ e3 ⟨_, b3⟩ ⟨_, c3⟩ ⟨td, hdat⟩ I2.len I2.oct
    have itk : ∀ {a : Addr} {o : Obj}, h2.get? a = some o → a ≠ 525 → a ≠ 527 → a ≠ 528 → h3.get? a = some o := fun e g1 g2 g3 => K3 _ _ e (by simp [g1, g2, g3])
    have hKi3 : KeyIs h3 K d.ks := hKi.keep K3 (nM3 hKM)
    have lo1 : ∀ a ∈ ([525, 527, K] : List Addr), 524 ≤ a := by
      intro a ha
      simp only [List.mem_cons, List.not_mem_nil, or_false] at ha
      rcases ha with rfl | rfl | rfl
      · decide
      · decide
      · exact hK5
    have fin : ∀ (s4 : Shared) (f4 : LF) (M : List Addr), (∀ x ∈ M, x ∈ ([525, 319, 329] : List Addr)) → Rel M { s1 with heap := h3, toks := k3 } s4 → s4.heap.get? 525 = some (lawFr (pb w.params b1 b2) f4 13) → (∃ tb, s4.heap.get? 319 = some (tabO (genPos xoneGen) tb)) → (∃ tb, s4.heap.get? 329 = some (tabO (genPos xmanyGen) tb)) → (∃ t, f4.data = .bytes (byteArr osp) t) → f4.first = f1.first →
        ∃ m, m < ds.length - i ∧ ∃ i f', i ≤ ds.length ∧ m = ds.length - i ∧ Rel (MM D It) s s4 ∧ UInv (pb w.params b1 b2) s4.heap D It f' (stepsD (ds.take (ds.length - i)) os) vs ds ∧ f'.first = f.first ∧ (i ≤ vs.size ∧ s4.heap.IsRevIter It D ((vs.size : Int) - 1 - (i : Int)) ∧ s4.heap.IsList D vs) := fun s4 f4 M hM R4 e4 t14 t24 hd4 g4 => by
      have mM : ∀ x ∈ M, x ∈ MM D It := fun x hx => by
        have := hM x hx
        simp only [MM, List.mem_cons, List.not_mem_nil, or_false] at this ⊢
        rcases this with g | g | g <;> simp [g]
      have nM : ∀ {a : Addr}, 524 ≤ a → a ≠ 525 → a ∉ M := fun h5 hne hm => by
        have := hM _ hm
        simp only [List.mem_cons, List.not_mem_nil, or_false] at this
        rcases this with g | g | g
        · exact hne g
        · rw [g] at h5; exact absurd h5 (by decide)
        · rw [g] at h5; exact absurd h5 (by decide)
      refine ⟨ds.length - (i + 1), by omega, i + 1, f4, by omega, rfl, R1.trans (((Rel.of_kp K2).mono mI).trans (((Rel.of_kp K3).mono m3).trans (R4.mono mM))), ?_, g4.trans g1, by omega, ?_, ?_⟩
      · rw [hprev]
        exact I3.step (R4.heap.mono mM) t14 t24 e4 ⟨_, R4.heap _ _ b3 (nM (by decide) (by decide))⟩ ⟨_, R4.heap _ _ c3 (nM (by decide) (by decide))⟩ hd4 hlp hopp
      · exact st2.2.1.at fun o e => R4.heap _ _ (itk e I2.nI.1 I2.nI.2.1 I2.nI.2.2) (nM I2.i5 I2.nI.1)
      · exact st2.2.2.at fun o e => R4.heap _ _ (itk e I2.nD.1 I2.nD.2.1 I2.nD.2.2) (nM I2.d5 I2.nD.1)
    rcases dok.kd with h0 | h0 | h23
    · obtain ⟨k0, hk⟩ := dok.one h0
      have hko := dok.oct k0 (by rw [hk]; simp)
      obtain ⟨kv, nn, hKg, hKv⟩ := id hKi3
      rw [hk] at hKv
      generalize hvl : kv.toList = vl at hKv
      have hKg := lst_eta hKg hvl
      cases hKv with
      | cons _ u0 hKv =>
      cases hKv
      have eu : (stepL d osp).map (fun o => Builtin.bitXor o k0) = osp := by
        have := eundo
        unfold undoL at this
        rw [if_pos h0, hk] at this
        exact this
      refine .of (un_0 (f := { f1 with kind := .int d.kd tk, group := .int d.g tg }) hh hroom (t := tk) lo1 (nd_k hKM) I3.fix (K3 _ _ ht1 (by decide)) (congrArg (Value.int · tk) h0) hdat e3 b3 hKg I3.oct I3.len (fun o hm => xor_oct (I3.oct o hm) hko) ?_)
      intro s4 t4 c4 R4 e4 T4
      exact fin s4 _ _ (by simp) R4 e4 ⟨_, T4⟩ ⟨_, R4.heap _ _ (K3 _ _ ht2 (by decide)) (by decide)⟩ ⟨t4, by rw [eu]⟩ rfl
    · have eu : xmanyL (stepL d osp) d.ks = osp := by
        have := eundo
        unfold undoL at this
        rw [if_neg (by rw [h0]; decide), if_pos h0] at this
        exact this
      refine .of (un_1 (f := { f1 with kind := .int d.kd tk, group := .int d.g tg }) (ns := xmanyL (stepL d osp) d.ks) hh hroom (t := tk) (by simp) (by decide) I3.fix (K3 _ _ ht2 (by decide)) (congrArg (Value.int · tk) h0) hdat e3 b3 hKi3 I3.oct dok.oct I3.len dok.k0 dok.k5 (xmanyL_len _ _) (fun i hi => xmanyL_get hi) (xmanyL_oct I3.oct dok.oct dok.k0) ?_)
      intro s4 t4 c4 R4 e4 T4
      exact fin s4 _ _ (by simp) R4 e4 ⟨_, R4.heap _ _ (K3 _ _ ht1 (by decide)) (by decide)⟩ ⟨_, T4⟩ ⟨t4, by rw [eu]⟩ rfl
    · by_cases hg : d.g = 1
      · have eu : (stepL d osp).map (rotV (8 - d.am) (Int.fmod (-(8 - d.am)) 8)) = osp := by
          have := eundo
          unfold undoL at this
          rw [if_neg (by rcases h23 with h | h <;> rw [h] <;> decide), if_neg (by rcases h23 with h | h <;> rw [h] <;> decide), if_pos hg] at this
          exact this
        refine un_2 (f := { f1 with kind := .int d.kd tk, group := .int d.g tg }) hh (by omega) (t := tk) (tg := tg) (by simp) (by decide) I3.fix h23 rfl (congrArg (Value.int · tg) hg) hdat e3 c3 I3.oct I3.len dok.am (fun o hm => (rot_all (am := 8 - d.am) (by have := dok.am; omega) (I3.oct o hm)).1) ?_
        intro h4 k4 t4 K4 e4
        exact fin _ _ [525] (by simp) (Rel.of_kp (s := { s1 with heap := h3, toks := k3 }) K4) e4 ⟨_, K4 _ _ (K3 _ _ ht1 (by decide)) (by decide)⟩ ⟨_, K4 _ _ (K3 _ _ ht2 (by decide)) (by decide)⟩ ⟨t4, by rw [eu]⟩ rfl
      · rcases dok.g with h | ⟨h0, hg'⟩
        · exact absurd h hg
        have eu : stepL d osp = osp := by
          unfold stepL
          rw [if_neg (by rw [h0]; decide), if_neg (by rw [h0]; decide), if_neg hg]
        refine .of (un_n (f := { f1 with kind := .int d.kd tk, group := .int d.g tg }) hh hg' (t := tk) (tg := tg) (congrArg (Value.int · tk) h0) rfl e3 ?_)
        intro h4 k4 K4
        exact fin _ { f1 with kind := .int d.kd tk, group := .int d.g tg } [] (by simp) (Rel.of_kp (s := { s1 with heap := h3, toks := k3 }) K4) (K4 _ _ e3 (by simp)) ⟨_, K4 _ _ (K3 _ _ ht1 (by decide)) (by simp)⟩ ⟨_, K4 _ _ (K3 _ _ ht2 (by decide)) (by simp)⟩ ⟨td, by rw [← eu]; exact hdat⟩ rfl
  · have hie : i = ds.length := by omega
    subst hie
    refine W.done s1 _ _ (by have z := st1; rw [← hsz] at z; exact z) fun h2 tk2 hK => ?_
    rw [Nat.sub_self, List.take_zero] at I1
    exact hR s1 f1 h2 tk2 R1 I1 g1 fun b o hb hn => hK b o hn hb
end
end Mine
end

section
open PySem PySem.W PySem.W.X PySem.Builtin PyProof.Rows
set_option maxRecDepth 100000
set_option linter.unusedVariables false
set_option linter.unusedSimpArgs false
namespace Mine
section
variable {prog : Program} {w : World} {A : Around} {s : Shared} {R : Result → Shared → Prop}
/-- a list's first part -/
theorem cut_code {l sl : Addr} {xs : Array Value} {n : Nat} {y : Int} {t : Tok} {zs : List Int} (hl : s.heap.get? l = some (lstO xs n)) (hs : s.heap.get? sl = some (fldO "slice" #[.none, .int y t, .none])) (hz : xs.size ≤ sizeLine) (hy : 0 ≤ y) (hi : IntsAre xs.toList zs)
    (h : ∀ ys : Array Value, IntsAre ys.toList (zs.take y.toNat) → R (.ok (.ret (.ref s.heap.objs.size))) { s with heap := s.heap.push (lstO ys 0) }) :
    codeAny (model prog w) A (.call (.builtin "list.__getitem__") ⟨[.ref l, .ref sl], []⟩) R s := by
  have hT : s.TypeIs (.ref l) "list" := ⟨_, hl, rfl⟩
  have hTs : s.TypeIs (.ref sl) "slice" := ⟨_, hs, rfl⟩
  have hk : IntsAre (slicePick xs none (some y) none).toList (zs.take y.toNat) := by
    have z := kmk_upto hi hy
    rwa [Array.toArray_toList] at z
  refine codeAny_call_builtin slot_list_getitem.plain entry_list_getitem (slot_list_getitem.check _ _ _ _ _ _ _ _ hT (args_list_getitem _ _) ?_)
  show wpAny _ _ (Builtin.List.listSubscript? (.ref sl) >>= _) _ _ s
  unfold Builtin.List.listSubscript?
  refine wpAny_bind (wpAny_bind (wpAny_specialOf hTs slice_no_index ?_))
  refine wpAny_pure ?_
  refine wpAny_bind (wpAny_typeOf hTs ?_)
  rw [listSliceParts_eq, if_neg (by decide)]
  refine wpAny_bind (wpAny_bind (wpAny_field hs rfl (x := .none) rfl (wpAny_bind (wpAny_listPart .none ?_))))
  rw [if_neg (show ¬ ((rawPart none == rawInt 0) = true) from Bool.false_ne_true)]
  refine wpAny_bind (wpAny_field hs rfl (x := .none) rfl (wpAny_bind (wpAny_listPart .none ?_)))
  refine wpAny_bind (wpAny_field hs rfl (x := .int y t) rfl (wpAny_bind (wpAny_listPart (.int y t) (wpAny_pure ?_))))
  refine wpAny_bind ?_
  unfold Builtin.List.listItems
  refine wpAny_bind (wpAny_seqItems hl rfl (wpAny_pure ?_))
  refine wpAny_bind (wpAny_of_eq (sliceIndices_raw none (some y) none xs.size (by simp)) ?_)
  exact wpAny_bind (wpAny_newObj_type (wpAny_pure (h _ hk)) (Nat.le_trans (slicePick_size_le xs none (some y) none) hz))
end
end Mine
end

section
open PySem PySem.W PySem.W.X PySem.Builtin PyProof.Rows
set_option maxRecDepth 100000
set_option linter.unusedVariables false
set_option linter.unusedSimpArgs false
namespace Mine
def moreL : List Int := [6, 93, 91, 308]
theorem add_code {prog : Program} {w : World} {A : Around} {R : Result → Shared → Prop} {s : Shared} {a b : Addr} {xs ys : Array Value} {n m : Nat} (ha : s.heap.get? a = some (lstO xs n)) (hb : s.heap.get? b = some (lstO ys m)) (hz : xs.size + ys.size ≤ sizeLine)
    (h : R (.ok (.ret (.ref s.heap.objs.size))) { s with heap := s.heap.push (lstO (xs ++ ys) 0) }) : codeAny (model prog w) A (.call (.builtin "list.__add__") ⟨[.ref a, .ref b], []⟩) R s :=
  codeAny_call_builtin F.slot_list_add.plain F.entry_list_add (F.slot_list_add.check _ _ _ _ _ _ _ _ ⟨_, ha, rfl⟩ (F.args_list_add_2 _ _) (list_addW a b xs ys n m none none #[] #[] hz prog w A R s ⟨ha, hb, h⟩))
section
variable {w : World} {b1 b2 : Bool} {A : Around} {s : Shared} {Q : Flow → Shared → Prop} {E : Value → Shared → Prop}
theorem pre_0 (hh : A.handled = none) {f : LF} {sx : Array Value} {ns : Nat} {zs : List Int} (F : Fix (pb w.params b1 b2) s.heap) (hf_script : f.script = .ref 524) (hL : s.heap.get? 525 = some (lawFr (pb w.params b1 b2) f 1)) (hS : s.heap.get? 524 = some (lstO sx ns)) (hi : IntsAre sx.toList zs) (hz : zs.length ≤ 1000)
    (hQ : ∀ h' tk (tt : Tok) D dx nd, Kp [525] s.heap h' → h'.get? 525 = some (lawFr (pb w.params b1 b2) { f with t2 := tt, deeds := .ref D } 2) → h'.get? D = some (lstO dx nd) → IntsAre dx.toList (zs.take 7 ++ moreL) → s.heap.get? D = none → 524 ≤ D → Q .next { s with heap := h', toks := tk }) :
    wpAny (model prg (wb w b1 b2)) A (execs [stmtAt lawB 0] LE) Q E s := by
  have nil : ∀ a : Addr, a ∉ ([] : List Addr) := fun a => by simp
  have hsz : 524 ≤ s.heap.objs.size := Nat.le_of_lt (Nat.lt_of_le_of_lt (by decide) (Heap.lt_size hL))
  have hfe : f = { f with script := .ref 524 } := by cases f; cases hf_script; rfl
  have hL1 : s.heap.get? 525 = some (lawFr (pb w.params b1 b2) { f with script := .ref 524 } 1) := by rw [hL]; exact congrArg some (congrArg (fun f => lawFr (pb w.params b1 b2) f 1) hfe)
  refine wpAny_execs1 (enter_any hh fun c own below past p hIn => ?_)
  refine go_call hIn [(525, lawFr (pb w.params b1 b2) { f with script := .ref 524 } 1), (3, ob3 (pb w.params b1 b2)), (0, ob0 (pb w.params b1 b2)), (524, lstO sx ns)] 12 [1, 2, 0, 4, 4, 4] (.call (.builtin "list.__getitem__") ⟨[.ref 524, .ref s.heap.objs.size], []⟩) [0, 1, 2, 3, 4]
    [(s.heap.objs.size, fldO "slice" #[.none, .int 7 (s.toks + 0), .none]), (525, lawFr (pb w.params b1 b2) { f with script := .ref 524 } 1), (3, ob3 (pb w.params b1 b2)), (0, ob0 (pb w.params b1 b2)), (524, lstO sx ns)] 1 1 True ?_ (by simp) (by clear hQ; kernel_rfl) trivial (by decide) ?_
  · simp only [List.mem_cons, List.not_mem_nil, or_false, forall_eq_or_imp, forall_eq]
    exact ⟨hL1, F.get 2, F.get 0, hS⟩
  intro h1 H1 A1 hA1 hh1
  have K1 : Kp [] s.heap h1 := H1.kpM _ fun b hb => by
    have : b ∈ ([525, 3, 0, 524] : List Addr) := hb
    simp only [List.mem_cons, List.not_mem_nil, or_false] at this
    rcases this with g | g | g | g
    · exact .inr (by rw [g]; exact ⟨_, hL1, by simp⟩)
    · exact .inr (by rw [g]; exact ⟨_, F.get 2, by simp⟩)
    · exact .inr (by rw [g]; exact ⟨_, F.get 0, by simp⟩)
    · exact .inr (by rw [g]; exact ⟨_, hS, by simp⟩)
  have hs1 : h1.objs.size = s.heap.objs.size + 1 := H1.size
  have hsl : sx.size = zs.length := by have := hi.length; rwa [Array.length_toList] at this
  have zl : 1011 ≤ sizeLine := by decide +kernel
  refine cut_code (H1.at 4 rfl) (H1.at 0 rfl) (by omega) (by decide) hi ?_
  intro ys hys
  have hys : IntsAre ys.toList (zs.take 7) := hys
  have hyl : ys.size ≤ 7 := by
    have := hys.length
    rw [Array.length_toList, List.length_take] at this
    omega
  have K2 : Kp [] h1 (h1.push (lstO ys 0)) := fun b o e _ => Heap.get?_push_of_some _ e
  have hCut : (h1.push (lstO ys 0)).get? h1.objs.size = some (lstO ys 0) := Heap.get?_push_size _ rfl
  refine go_callV hIn [] 2 [] (.type "list") [.ref h1.objs.size] [] [] 0 0 True (by simp) (by simp) (by clear hQ; kernel_rfl) trivial (by decide) ?_
  intro h2 H2 A2 hA2 hh2
  have K3 : Kp [] (h1.push (lstO ys 0)) h2 := H2.kpM _ fun b hb => by cases hb
  refine call_list_seq (T := "list") h1.objs.size (.inl rfl) (K3 _ _ hCut (nil _)) rfl rfl ?_ (by omega)
  intro h3 c3 k3 hA3
  have K4 : Kp [] h2 h3 := fun b o e _ => k3 b o e
  have K04 : Kp [] s.heap h3 := K1.trans (K2.trans (K3.trans K4))
  have F4 := F.keep K04 (fun a ha => by cases ha)
  refine go_callV hIn [(3, ob3 (pb w.params b1 b2)), (0, ob0 (pb w.params b1 b2))] 7 [0, 1, 0] (.type "list") [.ref 518] [0, 1] [(3, ob3 (pb w.params b1 b2)), (0, ob0 (pb w.params b1 b2))] 0 0 True ?_ (by simp) (by clear hQ; kernel_rfl) trivial (by decide) ?_
  · simp only [List.mem_cons, List.not_mem_nil, or_false, forall_eq_or_imp, forall_eq]
    exact ⟨F4.get 2, F4.get 0⟩
  intro h4 H4 A4 hA4 hh4
  have K5 : Kp [] h3 h4 := H4.kpM _ fun b hb => by
    have : b ∈ ([3, 0] : List Addr) := hb
    simp only [List.mem_cons, List.not_mem_nil, or_false] at this
    rcases this with g | g
    · exact .inr (by rw [g]; exact ⟨_, F4.get 2, by simp⟩)
    · exact .inr (by rw [g]; exact ⟨_, F4.get 0, by simp⟩)
  have F5 := F4.keep K5 (fun a ha => by cases ha)
  refine call_list_seq (T := "tuple") 518 (.inr rfl) (F5.get 15) rfl rfl ?_ (by decide +kernel)
  intro h5 c5 k5 hB5
  have K6 : Kp [] h4 h5 := fun b o e _ => k5 b o e
  have hA5 := K6 _ _ (K5 _ _ hA3 (nil _)) (nil _)
  have hAB : h2.objs.size ≠ h4.objs.size := Nat.ne_of_lt (Heap.lt_size (K5 _ _ hA3 (nil _)))
  refine go_call hIn [(h2.objs.size, lstO ys c3), (h4.objs.size, lstO #[.int 6 915, .int 93 916, .int 91 917, .int 308 918] c5)] 6 [0, 1, 0] (.call (.builtin "list.__add__") ⟨[.ref h2.objs.size, .ref h4.objs.size], []⟩) [0, 1] [(h2.objs.size, lstO ys c3), (h4.objs.size, lstO #[.int 6 915, .int 93 916, .int 91 917, .int 308 918] c5)] 0 0 True ?_ (by simpa using hAB) (by clear hQ; kernel_rfl) trivial (by decide) ?_
  · simp only [List.mem_cons, List.not_mem_nil, or_false, forall_eq_or_imp, forall_eq]
    exact ⟨hA5, hB5⟩
  intro h6 H6 A6 hA6 hh6
  have K7 : Kp [] h5 h6 := H6.kpM _ fun b hb => by
    have : b ∈ [h2.objs.size, h4.objs.size] := hb
    simp only [List.mem_cons, List.not_mem_nil, or_false] at this
    rcases this with g | g
    · exact .inr (by rw [g]; exact ⟨_, hA5, by simp⟩)
    · exact .inr (by rw [g]; exact ⟨_, hB5, by simp⟩)
  refine add_code (H6.at 0 rfl) (H6.at 1 rfl) (by simp; omega) ?_
  have K8 : Kp [] h6 (h6.push (lstO (ys ++ #[.int 6 915, .int 93 916, .int 91 917, .int 308 918]) 0)) := fun b o e _ => Heap.get?_push_of_some _ e
  have hD : (h6.push (lstO (ys ++ #[.int 6 915, .int 93 916, .int 91 917, .int 308 918]) 0)).get? h6.objs.size = some (lstO (ys ++ #[.int 6 915, .int 93 916, .int 91 917, .int 308 918]) 0) := Heap.get?_push_size _ rfl
  have Kall : Kp [] s.heap (h6.push (lstO (ys ++ #[.int 6 915, .int 93 916, .int 91 917, .int 308 918]) 0)) := K04.trans (K5.trans (K6.trans (K7.trans K8)))
  refine go_fin [(525, lawFr (pb w.params b1 b2) { f with script := .ref 524 } 1)] 8 [0, 0] (.pure (.done .next)) [0] [(525, lawFr (pb w.params b1 b2) { f with script := .ref 524, t2 := s.toks + 1 + 0 + 0 + 0 + 0, deeds := .ref h6.objs.size } 2)] 0 1 True (by simpa using Kall _ _ hL1 (nil _)) (by simp) (by clear hQ; kernel_rfl) trivial (by decide) ?_
  intro h7 p7 H7
  have K9 : Kp [525] (h6.push (lstO (ys ++ #[.int 6 915, .int 93 916, .int 91 917, .int 308 918]) 0)) h7 := H7.kpM _ fun b hb => .inl hb
  have hDn : s.heap.get? h6.objs.size = none := Ex.nn (M := []) (fun a ha => by cases ha) (K04.trans (K5.trans (K6.trans K7))) (none_of_ge (Nat.le_refl _))
  have hD5 : 525 < h6.objs.size := Heap.lt_size ((K04.trans (K5.trans (K6.trans K7))) _ _ hL1 (nil _))
  refine base_done' (hQ h7 _ _ h6.objs.size _ 0 ((Kall.mono fun _ h => by cases h).trans K9) ((H7.at 0 rfl).trans (congrArg some (congrArg (fun z => lawFr (pb w.params b1 b2) z 2) (by cases f; cases hf_script; rfl)))) (K9 _ _ hD (by simpa using Nat.ne_of_gt hD5)) ?_ hDn (Nat.le_of_lt (Nat.lt_of_le_of_lt (by decide) hD5)))
  rw [Array.toList_append]
  exact IntsAre.append hys (.cons _ _ (.cons _ _ (.cons _ _ (.cons _ _ .nil))))
end
end Mine
end

section
open PySem PySem.W PySem.W.X PySem.Builtin PyProof.Rows
set_option maxRecDepth 100000
set_option linter.unusedVariables false
set_option linter.unusedSimpArgs false
namespace Mine
def pickq4 {α : Type} (q : Option (Tok × Value × Tok × Value)) (a b : α) : α := match q with | none => a | some _ => b
noncomputable def firstL (zs : List Int) : List Int := (firstVals 0 zs).take (Int.fmod (zs.headD 0 + 7) 9).toNat
theorem firstVals_oct : ∀ (zs : List Int) (i : Nat), ∀ o ∈ firstVals i zs, 0 ≤ o ∧ o < 256
  | [], _, o, h => by cases h
  | z :: zs, i, o, h => by
    rcases List.mem_cons.mp h with rfl | h
    · rw [Int.fmod_eq_emod_of_nonneg _ (by decide)]; omega
    · exact firstVals_oct zs (i + 1) o h
theorem firstL_ok (zs : List Int) : (firstL zs).length ≤ 8 ∧ ∀ o ∈ firstL zs, 0 ≤ o ∧ o < 256 := by
  constructor
  · unfold firstL
    rw [List.length_take, Int.fmod_eq_emod_of_nonneg _ (by decide)]
    omega
  · intro o h
    exact firstVals_oct _ _ o (List.mem_of_mem_take h)
section
variable {w : World} {b1 b2 : Bool} {A : Around} {s : Shared} {Q : Flow → Shared → Prop} {E : Value → Shared → Prop}
theorem pre_1 (hh : A.handled = none) {f : LF} {D : Addr} {dx : Array Value} {nd : Nat} {zs : List Int} (F : Fix (pb w.params b1 b2) s.heap) (hD5 : 524 ≤ D) (hDn : D ≠ 525) (hf_deeds : f.deeds = .ref D) (hL : s.heap.get? 525 = some (lawFr (pb w.params b1 b2) f 2)) (hD : s.heap.get? D = some (lstO dx nd)) (hi : IntsAre dx.toList zs) (hz : zs.length ≤ 1000) (hz0 : zs ≠ [])
    (hQ : ∀ h' tk (tt : Tok) G gx ng, Kp [525] s.heap h' → h'.get? 525 = some (lawFr (pb w.params b1 b2) { f with t3 := tt, first := .ref G } 3) → h'.get? G = some (lstO gx ng) → IntsAre gx.toList (firstL zs) → s.heap.get? G = none → 524 ≤ G → Q .next { s with heap := h', toks := tk }) :
    wpAny (model prg (wb w b1 b2)) A (execs [stmtAt lawB 1] LE) Q E s := by
  have nil : ∀ a : Addr, a ∉ ([] : List Addr) := fun a => by simp
  have hsz : 524 ≤ s.heap.objs.size := Nat.le_of_lt (Nat.lt_of_le_of_lt (by decide) (Heap.lt_size hL))
  have hfe : f = { f with deeds := .ref D } := by cases f; cases hf_deeds; rfl
  have hL1 : s.heap.get? 525 = some (lawFr (pb w.params b1 b2) { f with deeds := .ref D } 2) := by rw [hL]; exact congrArg some (congrArg (fun f => lawFr (pb w.params b1 b2) f 2) hfe)
  have hlo : ∀ a ∈ ([525, D] : List Addr), 524 ≤ a := by
    intro a ha
    simp only [List.mem_cons, List.not_mem_nil, or_false] at ha
    rcases ha with rfl | rfl
    · decide
    · exact hD5
  refine wpAny_execs1 (enter_any hh fun c own below past p hIn => ?_)
  refine go_again hIn [(525, lawFr (pb w.params b1 b2) { f with deeds := .ref D } 2), (D, lstO dx nd), (3, ob3 (pb w.params b1 b2)), (0, ob0 (pb w.params b1 b2))]
    (cond b1 45 55) (cond b1 [2, 3, 0, 1, 1, 1, 0, 0, 0, 0, 0, 0, 0, 0, 0] [2, 3, 0, 1, 1, 1, 0, 0, 0, 0, 0, 0, 0, 0, 0, 2, 2, 2, 2]) (firstC (s.heap.objs.size + 1) (s.heap.objs.size + 2) (s.heap.objs.size + 3) 525) [0, 1, 2, 3, 4, 5, 6, 7]
    [(s.heap.objs.size + 3, dicO #[] 0), (s.heap.objs.size + 2, lstO #[] 0), (s.heap.objs.size + 1, fldO "enumerate" #[.none, .bool false, .ref s.heap.objs.size, .int 0 0, .none, .none]), (s.heap.objs.size, fldO "list_iterator" #[.ref D, .int 0 0]),
      (525, lawFr (pb w.params b1 b2) { f with deeds := .ref D } 2), (D, lstO dx nd), (3, ob3 (pb w.params b1 b2)), (0, ob0 (pb w.params b1 b2))] 4 0 True ?_ (nd_fix (ws := [525, D]) (cs := [3, 0]) (by simp [hDn.symm]) hlo) (by clear hQ; cases b1 <;> cases b2 <;> kernel_rfl) trivial (by decide) rfl ?_
  · simp only [List.mem_cons, List.not_mem_nil, or_false, forall_eq_or_imp, forall_eq]
    exact ⟨hL1, hD, F.get 2, F.get 0⟩
  intro h1 H1 A1 hA1 hh1
  have K1 : Kp [] s.heap h1 := H1.kpM _ fun b hb => by
    have : b ∈ [525, D, 3, 0] := hb
    simp only [List.mem_cons, List.not_mem_nil, or_false] at this
    rcases this with g | g | g | g
    · exact .inr (by rw [g]; exact ⟨_, hL1, by simp⟩)
    · exact .inr (by rw [g]; exact ⟨_, hD, by simp⟩)
    · exact .inr (by rw [g]; exact ⟨_, F.get 2, by simp⟩)
    · exact .inr (by rw [g]; exact ⟨_, F.get 0, by simp⟩)
  have zl : 1011 ≤ sizeLine := by decide +kernel
  have hlt : ∀ a o, s.heap.get? a = some o → ∀ k, s.heap.objs.size + k ≠ a := fun a o e k => Nat.ne_of_gt (Nat.lt_of_lt_of_le (Heap.lt_size e) (Nat.le_add_right _ _))
  have hndn : [s.heap.objs.size + 1, s.heap.objs.size, s.heap.objs.size + 2, s.heap.objs.size + 3, D].Nodup := nd_pick (l := [s.heap.objs.size + 3, s.heap.objs.size + 2, s.heap.objs.size + 1, s.heap.objs.size, 525, D, 3, 0]) H1.nd [2, 3, 1, 0, 5] (by decide)
  refine first_loop hh1 (xs := dx) hndn zs 0 _ #[] 0 .none none (H1.at 2 rfl) ⟨_, H1.at 3 rfl, rfl, rfl⟩ ⟨_, H1.at 5 rfl, rfl, nd, rfl⟩ (H1.at 1 rfl) (H1.at 0 rfl) (by simpa using hi) (by simp; omega) ?_
  intro h2 tk ys k q K2 e1 hys e3
  have K2 : Kp [s.heap.objs.size + 1, s.heap.objs.size, s.heap.objs.size + 2, s.heap.objs.size + 3] h1 h2 := K2
  have K12 : Kp [] s.heap h2 := Kp.dropAll (M := [s.heap.objs.size + 1, s.heap.objs.size, s.heap.objs.size + 2, s.heap.objs.size + 3]) (N := []) ((K1.mono fun _ h => by cases h).trans K2) fun T hT => by
    simp only [List.mem_cons, List.not_mem_nil, or_false] at hT
    rcases hT with rfl | rfl | rfl | rfl <;> first | exact none_ad _ | exact none_of_ge (Nat.le_refl _)
  rw [show (#[] : Array Value) ++ ys = ys by simp] at e1
  obtain ⟨z0, zs', rfl⟩ : ∃ z0 zs', zs = z0 :: zs' := by
    cases zs with
    | nil => exact absurd rfl hz0
    | cons a l => exact ⟨a, l, rfl⟩
  have hv0 : ∃ t, dx[0]? = some (.int z0 t) := by
    generalize hdl : dx.toList = dl at hi
    cases hi with
    | cons _ t hi' => exact ⟨t, by rw [← Array.getElem?_toList, hdl]; rfl⟩
  obtain ⟨t0, hv0⟩ := hv0
  have hval : valI dx 0 = z0 := by unfold valI; rw [show (0 : Int).toNat = 0 from rfl, hv0]
  have hget : dx[(0 : Int).toNat]? = some (.int (valI dx 0) (tokI dx 0)) := by
    rw [hval]; unfold tokI; rw [show (0 : Int).toNat = 0 from rfl, hv0]
  have hL2 := K12 _ _ hL1 (nil _)
  have hD2 := K12 _ _ hD (nil _)
  have hnd2 : ([525, D, s.heap.objs.size + 3, s.heap.objs.size + 2] : List Addr).Nodup := by
    have a1 := hlt _ _ hL 3; have a2 := hlt _ _ hL 2; have a3 := hlt _ _ hD 3; have a4 := hlt _ _ hD 2
    simp only [List.nodup_cons, List.mem_cons, List.not_mem_nil, or_false, not_or, not_false_eq_true, List.nodup_nil, and_true]
    exact ⟨⟨hDn.symm, a1.symm, a2.symm⟩, ⟨a3.symm, a4.symm⟩, fun e => absurd (Nat.add_left_cancel e) (by decide)⟩
  refine go_call hIn [(525, lawFr (pb w.params b1 b2) { f with deeds := .ref D } 2), (D, lstO dx nd), (s.heap.objs.size + 3, D2 (pb w.params b1 b2) "i" "x" q), (s.heap.objs.size + 2, lstO ys k)]
    (pickq4 q 27 35) (pickq4 q [2, 2, 0, 1, 1, 1, 1, 4, 4, 4] [2, 2, 2, 2, 2, 2, 0, 1, 1, 1, 1, 4, 4, 4]) (.call (.builtin "list.__getitem__") ⟨[.ref (s.heap.objs.size + 2), .ref h2.objs.size], []⟩) [0, 1, 2, 4]
    [(h2.objs.size, fldO "slice" #[.none, .int (Int.fmod (valI dx 0 + 7) 9) (tk + 4), .none]), (525, lawFr (pb w.params b1 b2) { f with deeds := .ref D } 2), (D, lstO dx nd), (s.heap.objs.size + 2, lstO ys k)] 1 5
    ((Value.type "list" = .type "list" ∧ (0 : Int) ≤ 0 ∧ (0 : Int) ≤ 1000 ∧ dx[(0 : Int).toNat]? = some (.int (valI dx 0) (tokI dx 0))) ∧ True) ?_ hnd2 (by clear hQ H1 e3 K2; rcases q with _ | ⟨q1, q2, q3, q4⟩ <;> cases b1 <;> cases b2 <;> kernel_rfl) ⟨⟨rfl, by decide, by decide, hget⟩, trivial⟩ (by decide) ?_
  · simp only [List.mem_cons, List.not_mem_nil, or_false, forall_eq_or_imp, forall_eq]
    exact ⟨hL2, hD2, e3, e1⟩
  intro h3 H3 A3 hA3 hh3
  have K3 : Kp [s.heap.objs.size + 3] h2 h3 := H3.kpM _ fun b hb => by
    have : b ∈ [525, D, s.heap.objs.size + 3, s.heap.objs.size + 2] := hb
    simp only [List.mem_cons, List.not_mem_nil, or_false] at this
    rcases this with g | g | g | g
    · exact .inr (by rw [g]; exact ⟨_, hL2, by simp⟩)
    · exact .inr (by rw [g]; exact ⟨_, hD2, by simp⟩)
    · exact .inl (by rw [g]; simp)
    · exact .inr (by rw [g]; exact ⟨_, e1, by simp⟩)
  have K13 : Kp [] s.heap h3 := Kp.dropAll (M := [s.heap.objs.size + 3]) (N := []) ((K12.mono fun _ h => by cases h).trans K3) fun T hT => by
    rw [List.mem_singleton.mp hT]; exact none_ad _
  have hysl : ys.size ≤ sizeLine := by
    have h1 := hys.length
    have h2 : ∀ (l : List Int) (i : Nat), (firstVals i l).length = l.length := by
      intro l
      induction l with
      | nil => intro i; rfl
      | cons a l ih => intro i; simp [firstVals, ih]
    rw [Array.length_toList, h2] at h1
    omega
  have hfm : 0 ≤ Int.fmod (valI dx 0 + 7) 9 := by rw [Int.fmod_eq_emod_of_nonneg _ (by decide)]; omega
  refine cut_code (H3.at 3 rfl) (H3.at 0 rfl) hysl hfm hys ?_
  intro gx hgx
  have hgx : IntsAre gx.toList (firstL (z0 :: zs')) := by
    rw [hval] at hgx
    exact hgx
  have K4 : Kp [] h3 (h3.push (lstO gx 0)) := fun b o e _ => Heap.get?_push_of_some _ e
  have hG : (h3.push (lstO gx 0)).get? h3.objs.size = some (lstO gx 0) := Heap.get?_push_size _ rfl
  have K14 := K13.trans K4
  refine go_fin [(525, lawFr (pb w.params b1 b2) { f with deeds := .ref D } 2)] 10 [0, 0] (.pure (.done .next)) [0] [(525, lawFr (pb w.params b1 b2) { f with deeds := .ref D, t3 := tk + 5 + 0, first := .ref h3.objs.size } 3)] 0 1 True (by simpa using K14 _ _ hL1 (nil _)) (by simp) (by clear hQ H1 e3 K2 H3; rcases q with _ | ⟨q1, q2, q3, q4⟩ <;> cases b1 <;> cases b2 <;> kernel_rfl) trivial (by decide) ?_
  intro h7 p7 H7
  have K9 : Kp [525] (h3.push (lstO gx 0)) h7 := H7.kpM _ fun b hb => .inl hb
  have hGn : s.heap.get? h3.objs.size = none := Ex.nn (M := []) (fun a ha => by cases ha) K13 (none_of_ge (Nat.le_refl _))
  have hG5 : 525 < h3.objs.size := Heap.lt_size (K13 _ _ hL1 (nil _))
  exact base_done' (hQ h7 _ _ h3.objs.size _ 0 ((K14.mono fun _ h => by cases h).trans K9) ((H7.at 0 rfl).trans (congrArg some (congrArg (fun z => lawFr (pb w.params b1 b2) z 3) (by cases f; cases hf_deeds; rfl)))) (K9 _ _ hG (by simpa using Nat.ne_of_gt hG5)) hgx hGn (Nat.le_of_lt (Nat.lt_of_le_of_lt (by decide) hG5)))
end
end Mine
end

section
open PySem PySem.W PySem.W.X PySem.Builtin PyProof.Rows
set_option maxRecDepth 100000
set_option linter.unusedVariables false
set_option linter.unusedSimpArgs false
namespace Mine
section
variable {w : World} {b1 b2 : Bool} {A : Around} {s : Shared} {Q : Flow → Shared → Prop} {E : Value → Shared → Prop}
theorem pre_2 (hh : A.handled = none) {f : LF} {G : Addr} {gx : Array Value} {ng : Nat} {os : List Int} (F : Fix (pb w.params b1 b2) s.heap) (hG5 : 524 ≤ G) (hGn : G ≠ 525) (hf_first : f.first = .ref G) (hL : s.heap.get? 525 = some (lawFr (pb w.params b1 b2) f 3)) (hG : s.heap.get? G = some (lstO gx ng)) (hi : IntsAre gx.toList os) (hz : os.length ≤ 8)
    (hQ : ∀ h' tk (tt : Tok) R xs nr, Kp [525] s.heap h' → h'.get? 525 = some (lawFr (pb w.params b1 b2) { f with t4 := tt, rows := .ref R } 4) → h'.get? R = some (lstO xs nr) → NewRows s.heap h' xs.toList os → s.heap.get? R = none → 524 ≤ R → Q .next { s with heap := h', toks := tk }) :
    wpAny (model prg (wb w b1 b2)) A (execs [stmtAt lawB 2] LE) Q E s := by
  have nil : ∀ a : Addr, a ∉ ([] : List Addr) := fun a => by simp
  have hsz : 524 ≤ s.heap.objs.size := Nat.le_of_lt (Nat.lt_of_le_of_lt (by decide) (Heap.lt_size hL))
  have hfe : f = { f with first := .ref G } := by cases f; cases hf_first; rfl
  have hL1 : s.heap.get? 525 = some (lawFr (pb w.params b1 b2) { f with first := .ref G } 3) := by rw [hL]; exact congrArg some (congrArg (fun f => lawFr (pb w.params b1 b2) f 3) hfe)
  refine wpAny_execs1 (enter_any hh fun c own below past p hIn => ?_)
  refine go_again hIn [(525, lawFr (pb w.params b1 b2) { f with first := .ref G } 3), (G, lstO gx ng)]
    (cond b1 19 29) (cond b1 [0, 1, 1, 1, 0] [0, 1, 1, 1, 0, 3, 3, 3, 3]) (rows0C s.heap.objs.size (s.heap.objs.size + 1) (s.heap.objs.size + 2) (s.heap.objs.size + 3) 525) [0, 1, 2, 3, 4, 5]
    [(s.heap.objs.size + 3, cellO none), (s.heap.objs.size + 2, dicO #[] 0), (s.heap.objs.size + 1, lstO #[] 0), (s.heap.objs.size, fldO "list_iterator" #[.ref G, .int 0 0]),
      (525, lawFr (pb w.params b1 b2) { f with first := .ref G } 3), (G, lstO gx ng)] 4 0 True ?_ (by simp [hGn.symm]) (by clear hQ; cases b1 <;> cases b2 <;> kernel_rfl) trivial (by decide) rfl ?_
  · simp only [List.mem_cons, List.not_mem_nil, or_false, forall_eq_or_imp, forall_eq]
    exact ⟨hL1, hG⟩
  intro h1 H1 A1 hA1 hh1
  have K1 : Kp [] s.heap h1 := H1.kpM _ fun b hb => by
    have : b ∈ [525, G] := hb
    simp only [List.mem_cons, List.not_mem_nil, or_false] at this
    rcases this with g | g
    · exact .inr (by rw [g]; exact ⟨_, hL1, by simp⟩)
    · exact .inr (by rw [g]; exact ⟨_, hG, by simp⟩)
  have F1 := F.keep K1 (fun a ha => by cases ha)
  have hlt : ∀ a o, s.heap.get? a = some o → ∀ k, s.heap.objs.size + k ≠ a := fun a o e k => Nat.ne_of_gt (Nat.lt_of_lt_of_le (Heap.lt_size e) (Nat.le_add_right _ _))
  have hndn : [s.heap.objs.size, s.heap.objs.size + 1, s.heap.objs.size + 3, s.heap.objs.size + 2, G].Nodup := nd_pick (l := [s.heap.objs.size + 3, s.heap.objs.size + 2, s.heap.objs.size + 1, s.heap.objs.size, 525, G]) H1.nd [3, 2, 0, 1, 5] (by decide)
  refine rows0_loop hh1 (xs := gx) (os := os) (q := none) hi hndn (fun a ha => ?_) F1 ⟨_, H1.at 3 rfl, rfl, rfl⟩ ⟨_, H1.at 5 rfl, rfl, ng, rfl⟩ (H1.at 2 rfl) (H1.at 0 rfl) (H1.at 1 rfl) hz ?_
  · simp only [List.mem_cons, List.not_mem_nil, or_false] at ha
    rcases ha with rfl | rfl | rfl | rfl <;> first | exact le_ad hsz _ | exact hsz
  intro h2 tk ys k q K2 e1 e2 e3 e4
  have K12 : Kp [] s.heap h2 := Kp.dropAll (M := [s.heap.objs.size, s.heap.objs.size + 1, s.heap.objs.size + 3, s.heap.objs.size + 2]) (N := []) ((K1.mono fun _ h => by cases h).trans K2) fun T hT => by
    simp only [List.mem_cons, List.not_mem_nil, or_false] at hT
    rcases hT with rfl | rfl | rfl | rfl <;> first | exact none_ad _ | exact none_of_ge (Nat.le_refl _)
  refine go_fin [(525, lawFr (pb w.params b1 b2) { f with first := .ref G } 3)] 9 [0, 0] (.pure (.done .next)) [0] [(525, lawFr (pb w.params b1 b2) { f with first := .ref G, t4 := tk + 0, rows := .ref (s.heap.objs.size + 1) } 4)] 0 1 True (by simpa using K12 _ _ hL1 (nil _)) (by simp) (by clear hQ H1 K2; cases b1 <;> cases b2 <;> kernel_rfl) trivial (by decide) ?_
  intro h3 p3 H3
  have K3 : Kp [525] h2 h3 := H3.kpM _ fun b hb => .inl hb
  exact base_done' (hQ h3 _ _ (s.heap.objs.size + 1) ys k ((K12.mono fun _ h => by cases h).trans K3) ((H3.at 0 rfl).trans (congrArg some (congrArg (fun z => lawFr (pb w.params b1 b2) z 4) (by cases f; cases hf_first; rfl)))) (K3 _ _ e1 (by simpa using hlt _ _ hL 1))
    ((e2.keep K3 (fun a ha => ⟨lawFr (pb w.params b1 b2) f 3, by rw [List.mem_singleton.mp ha]; exact K1 _ _ hL (nil _)⟩)).base K1) (none_ad _) (le_ad hsz _))
theorem pre_3 (hh : A.handled = none) {f : LF} {G : Addr} {gx : Array Value} {ng : Nat} {os : List Int} (F : Fix (pb w.params b1 b2) s.heap) (hf_first : f.first = .ref G) (hL : s.heap.get? 525 = some (lawFr (pb w.params b1 b2) f 4)) (hG : s.heap.get? G = some (lstO gx ng)) (hi : IntsAre gx.toList os) (hz : os.length ≤ 8) (ho : ∀ o ∈ os, 0 ≤ o ∧ o < 256)
    (hQ : ∀ h' tk (tt tu : Tok), Kp [525] s.heap h' → h'.get? 525 = some (lawFr (pb w.params b1 b2) { f with t5 := tt, data := .bytes (byteArr os) tu } 5) → Q .next { s with heap := h', toks := tk }) :
    wpAny (model prg (wb w b1 b2)) A (execs [stmtAt lawB 3] LE) Q E s := by
  have nil : ∀ a : Addr, a ∉ ([] : List Addr) := fun a => by simp
  have hfe : f = { f with first := .ref G } := by cases f; cases hf_first; rfl
  have hL1 : s.heap.get? 525 = some (lawFr (pb w.params b1 b2) { f with first := .ref G } 4) := by rw [hL]; exact congrArg some (congrArg (fun f => lawFr (pb w.params b1 b2) f 4) hfe)
  refine wpAny_execs1 (enter_any hh fun c own below past p hIn => ?_)
  refine go_callV hIn [(525, lawFr (pb w.params b1 b2) { f with first := .ref G } 4), (3, ob3 (pb w.params b1 b2)), (0, ob0 (pb w.params b1 b2))] 7 [1, 2, 0] (.type "bytes") [.ref G] [0, 1, 2]
    [(525, lawFr (pb w.params b1 b2) { f with first := .ref G } 4), (3, ob3 (pb w.params b1 b2)), (0, ob0 (pb w.params b1 b2))] 0 0 True ?_ (by simp) (by clear hQ; kernel_rfl) trivial (by decide) ?_
  · simp only [List.mem_cons, List.not_mem_nil, or_false, forall_eq_or_imp, forall_eq]
    exact ⟨hL1, F.get 2, F.get 0⟩
  intro h1 H1 A1 hA1 hh1
  have K1 : Kp [] s.heap h1 := H1.kpM _ fun b hb => by
    have : b ∈ [525, 3, 0] := hb
    simp only [List.mem_cons, List.not_mem_nil, or_false] at this
    rcases this with g | g | g
    · exact .inr (by rw [g]; exact ⟨_, hL1, by simp⟩)
    · exact .inr (by rw [g]; exact ⟨_, F.get 2, by simp⟩)
    · exact .inr (by rw [g]; exact ⟨_, F.get 0, by simp⟩)
  refine call_bytes_ints (l := G) (vs := gx.toList) (ns := os) ⟨_, K1 _ _ hG (nil _), rfl, ng, rfl⟩ hi ho (by rw [hi.length]; exact Nat.le_trans hz (by decide +kernel)) hh1 ?_
  intro h2 t2 k2 hk
  have K2 : Kp [] h1 h2 := fun b o e _ => hk b o e
  have K12 := K1.trans K2
  refine go_fin [(525, lawFr (pb w.params b1 b2) { f with first := .ref G } 4)] 8 [0, 0] (.pure (.done .next)) [0] [(525, lawFr (pb w.params b1 b2) { f with first := .ref G, t5 := k2 + 0, data := .bytes (byteArr os) t2 } 5)] 0 1 True (by simpa using K12 _ _ hL1 (nil _)) (by simp) (by clear hQ H1 K2; kernel_rfl) trivial (by decide) ?_
  intro h3 p3 H3
  have K3 : Kp [525] h2 h3 := H3.kpM _ fun b hb => .inl hb
  exact base_done' (hQ h3 _ _ t2 ((K12.mono fun _ h => by cases h).trans K3) ((H3.at 0 rfl).trans (congrArg some (congrArg (fun z => lawFr (pb w.params b1 b2) z 5) (by cases f; cases hf_first; rfl)))))
theorem pre_4 (hh : A.handled = none) {f : LF} (hL : s.heap.get? 525 = some (lawFr (pb w.params b1 b2) f 5))
    (hQ : ∀ h' tk (tt : Tok), Kp [525] s.heap h' → h'.get? 525 = some (lawFr (pb w.params b1 b2) { f with t6 := tt, done := .ref s.heap.objs.size } 6) → h'.get? s.heap.objs.size = some (lstO #[] 0) → Q .next { s with heap := h', toks := tk }) :
    wpAny (model prg (wb w b1 b2)) A (execs [stmtAt lawB 4] LE) Q E s := by
  refine wpAny_execs1 (any_fin hh [(525, lawFr (pb w.params b1 b2) f 5)] 10 [1, 1] (.done .next) [1, 0] [(525, lawFr (pb w.params b1 b2) { f with t6 := s.toks + 0, done := .ref s.heap.objs.size } 6), (s.heap.objs.size, lstO #[] 0)] 1 1 True (by simpa using hL) (by simp) (fun _ _ _ _ _ => by clear hQ; kernel_rfl) trivial (by decide) ?_)
  intro h1 H1
  exact hQ _ _ _ (H1.kpM _ fun b hb => .inl hb) (H1.at 0 rfl) (H1.at 1 rfl)
theorem pre_7 (hh : A.handled = none) {f : LF} {G : Addr} {gx : Array Value} {ng : Nat} {os : List Int} {td : Tok} (F : Fix (pb w.params b1 b2) s.heap) (hf_first : f.first = .ref G) (hf_data : f.data = .bytes (byteArr os) td) (hL : s.heap.get? 525 = some (lawFr (pb w.params b1 b2) f 13)) (hG : s.heap.get? G = some (lstO gx ng)) (hi : IntsAre gx.toList os) (hz : os.length ≤ 8) (ho : ∀ o ∈ os, 0 ≤ o ∧ o < 256)
    (hQ : ∀ h' tk, Kp [] s.heap h' → Q (.ret (.bool true)) { s with heap := h', toks := tk }) :
    wpAny (model prg (wb w b1 b2)) A (execs [stmtAt lawB 7] LE) Q E s := by
  have nil : ∀ a : Addr, a ∉ ([] : List Addr) := fun a => by simp
  have hfe : f = { f with first := .ref G, data := .bytes (byteArr os) td } := by cases f; cases hf_first; cases hf_data; rfl
  have hL1 : s.heap.get? 525 = some (lawFr (pb w.params b1 b2) { f with first := .ref G, data := .bytes (byteArr os) td } 13) := by rw [hL]; exact congrArg some (congrArg (fun f => lawFr (pb w.params b1 b2) f 13) hfe)
  refine wpAny_execs1 (enter_any hh fun c own below past p hIn => ?_)
  refine go_callV hIn [(525, lawFr (pb w.params b1 b2) { f with first := .ref G, data := .bytes (byteArr os) td } 13), (3, ob3 (pb w.params b1 b2)), (0, ob0 (pb w.params b1 b2))] 9 [0, 1, 2, 0] (.type "bytes") [.ref G] [0, 1, 2]
    [(525, lawFr (pb w.params b1 b2) { f with first := .ref G, data := .bytes (byteArr os) td } 13), (3, ob3 (pb w.params b1 b2)), (0, ob0 (pb w.params b1 b2))] 0 0 True ?_ (by simp) (by clear hQ; cases b2 <;> kernel_rfl) trivial (by decide) ?_
  · simp only [List.mem_cons, List.not_mem_nil, or_false, forall_eq_or_imp, forall_eq]
    exact ⟨hL1, F.get 2, F.get 0⟩
  intro h1 H1 A1 hA1 hh1
  have K1 : Kp [] s.heap h1 := H1.kpM _ fun b hb => by
    have : b ∈ [525, 3, 0] := hb
    simp only [List.mem_cons, List.not_mem_nil, or_false] at this
    rcases this with g | g | g
    · exact .inr (by rw [g]; exact ⟨_, hL1, by simp⟩)
    · exact .inr (by rw [g]; exact ⟨_, F.get 2, by simp⟩)
    · exact .inr (by rw [g]; exact ⟨_, F.get 0, by simp⟩)
  refine call_bytes_ints (l := G) (vs := gx.toList) (ns := os) ⟨_, K1 _ _ hG (nil _), rfl, ng, rfl⟩ hi ho (by rw [hi.length]; exact Nat.le_trans hz (by decide +kernel)) hh1 ?_
  intro h2 t2 k2 hk
  have K2 : Kp [] h1 h2 := fun b o e _ => hk b o e
  have K12 := K1.trans K2
  refine go_call hIn [] 3 [] (.call (.builtin "bytes.__eq__") ⟨[.bytes (byteArr os) td, .bytes (byteArr os) t2], []⟩) [] [] 0 0 True (by simp) (by simp) (by clear hQ H1 K2; cases b2 <;> kernel_rfl) trivial (by decide) ?_
  intro h3 H3 A3 hA3 hh3
  have K3 : Kp [] h2 h3 := H3.kpM _ fun b hb => by cases hb
  refine gives_code FB.slot_bytes_eq (typeIs_bytes _ _ _) FB.entry_bytes_eq (FB.args_bytes_eq_2 _ _) (gives_bytes_eq _ _ _ _) ?_
  have e : ((byteArr os).toList == (byteArr os).toList) = true := by simp
  rw [e]
  refine go_fin [] 8 [] (.pure (.done (.ret (.bool true)))) [] [] 0 0 True (by simp) (by simp) (by clear hQ H1 K2; cases b2 <;> kernel_rfl) trivial (by decide) ?_
  intro h4 p4 H4
  have K4 : Kp [] h3 h4 := H4.kpM _ fun b hb => by cases hb
  exact base_done' (hQ h4 _ (K12.trans (K3.trans K4)))
end
end Mine
end

section
open PySem PySem.W PySem.W.X PySem.Builtin PyProof.Rows
set_option maxRecDepth 100000
set_option linter.unusedVariables false
set_option linter.unusedSimpArgs false
namespace Mine
theorem DoneAre.mono {h : Heap} {N N' : Addr → Prop} (hN : ∀ a o, N a → h.get? a = some o → N' a) : ∀ {vs : List Value} {ds : List Deed}, DoneAre h N vs ds → DoneAre h N' vs ds
  | _, _, .nil => .nil
  | _, _, .cons ⟨T, K, tk, ta, tg, e1, e2, e3, e6, e4, e5⟩ b => .cons ⟨T, K, tk, ta, tg, e1, hN _ _ e2 e4, (by obtain ⟨vs, n, g, _⟩ := e5; exact hN _ _ e3 g), e6, e4, e5⟩ (DoneAre.mono hN b)
section
variable {w : World} {b1 b2 : Bool} {A : Around} {s : Shared} {Q : Flow → Shared → Prop} {E : Value → Shared → Prop}
theorem pre_5 (hh : A.handled = none) (hroom : A.depth + 4 < recursionLimit) (hfr : A.frames = some [LE]) {f : LF} {D dl R : Addr} {dx xs : Array Value} {nd nr n0 : Nat} {zs os : List Int} {td : Tok} {tb1 tb2 : Option Addr} {v1 v2 v3 : Option Value}
    (F : Fix (pb w.params b1 b2) s.heap) (ht1 : s.heap.get? 319 = some (tabO (genPos xoneGen) tb1)) (ht2 : s.heap.get? 329 = some (tabO (genPos xmanyGen) tb2)) (hL : s.heap.get? 525 = some (lawFr (pb w.params b1 b2) f 6)) (hc1 : s.heap.get? 526 = some (cellO v1)) (hc2 : s.heap.get? 527 = some (cellO v2)) (hc3 : s.heap.get? 528 = some (cellO v3))
    (hf_deeds : f.deeds = .ref dl) (hf_rows : f.rows = .ref R) (hf_data : f.data = .bytes (byteArr os) td) (hf_done : f.done = .ref D)
    (hdl : s.heap.get? dl = some (lstO dx nd)) (hR : s.heap.get? R = some (lstO xs nr)) (hD : s.heap.get? D = some (lstO #[] n0)) (hR5 : 524 ≤ R) (hD5 : 524 ≤ D) (hdl5 : 524 ≤ dl) (hdlD : dl ≠ D) (hRD : R ≠ D) (hrow : RowsAre s.heap xs.toList os) (hrD : ∀ (i : Nat) r, xs[i]? = some (.ref r) → r ≠ D)
    (hi : IntsAre dx.toList zs) (hz : zs.length ≤ 1000) (hz0 : zs ≠ []) (hol : os.length ≤ 8) (ho : ∀ o ∈ os, 0 ≤ o ∧ o < 256)
    (hQ : ∀ s1 f' h2 tk It, s.heap.get? It = none → Rel (MM D It) s s1 → Inv (pb w.params b1 b2) s1.heap D It f' 13 (stepsL zs os) (zs.map deedOf) → f'.first = f.first → Kp [It] s1.heap h2 → Q .next { s1 with heap := h2, toks := tk }) :
    wpF (model prg (wb w b1 b2)) A (execs [stmtAt lawB 5] LE) Q E s := by
  have nil : ∀ a : Addr, a ∉ ([] : List Addr) := fun a => by simp
  have hsz : 524 ≤ s.heap.objs.size := Nat.le_of_lt (Nat.lt_of_le_of_lt (by decide) (Heap.lt_size hL))
  have hfe : f = { f with deeds := .ref dl } := by cases f; cases hf_deeds; rfl
  have hL1 : s.heap.get? 525 = some (lawFr (pb w.params b1 b2) { f with deeds := .ref dl } 6) := by rw [hL]; exact congrArg some (congrArg (fun f => lawFr (pb w.params b1 b2) f 6) hfe)
  have nlist : ∀ {a : Addr} {ys : Array Value} {n : Nat}, s.heap.get? a = some (lstO ys n) → a ≠ 525 ∧ a ≠ 526 ∧ a ≠ 527 ∧ a ≠ 528 := fun {a ys n} e => by
    refine ⟨?_, ?_, ?_, ?_⟩
    · rintro rfl; rw [hL] at e; exact absurd (congrArg Obj.cls (Option.some.inj e)) (by simp [lawFr])
    · rintro rfl; rw [hc1] at e; exact absurd (congrArg Obj.cls (Option.some.inj e)) (by simp)
    · rintro rfl; rw [hc2] at e; exact absurd (congrArg Obj.cls (Option.some.inj e)) (by simp)
    · rintro rfl; rw [hc3] at e; exact absurd (congrArg Obj.cls (Option.some.inj e)) (by simp)
  have ndl := nlist hdl
  refine wpF_execs1 (enter_f hh fun c own below past p hIn hF => ?_)
  refine go_callF hIn hF [(525, lawFr (pb w.params b1 b2) { f with deeds := .ref dl } 6), (dl, lstO dx nd)] 13 [0, 1, 1, 1, 0] (.forLoop (forTarget forD) (.ref s.heap.objs.size) dB [] LE) [0, 1, 2]
    [(s.heap.objs.size, fldO "list_iterator" #[.ref dl, .int 0 0]), (525, lawFr (pb w.params b1 b2) { f with deeds := .ref dl } 6), (dl, lstO dx nd)] 1 0 True ?_ (by simp [ndl.1.symm]) (by clear hQ; cases b2 <;> kernel_rfl) trivial (by decide) ?_
  · simp only [List.mem_cons, List.not_mem_nil, or_false, forall_eq_or_imp, forall_eq]
    exact ⟨hL1, hdl⟩
  intro h1 H1 A' hA' hh'
  have hAA : A' = A := by rw [hA']; cases b2 <;> kernel_rfl
  subst hAA
  have K1 : Kp [] s.heap h1 := H1.kpM _ fun b hb => by
    have : b ∈ [525, dl] := hb
    simp only [List.mem_cons, List.not_mem_nil, or_false] at this
    rcases this with g | g
    · exact .inr (by rw [g]; exact ⟨_, hL1, by simp⟩)
    · exact .inr (by rw [g]; exact ⟨_, hdl, by simp⟩)
  have k1 : ∀ {a : Addr} {o : Obj}, s.heap.get? a = some o → h1.get? a = some o := fun e => K1 _ _ e (nil _)
  have nIt : ∀ {a : Addr} {o : Obj}, s.heap.get? a = some o → a ≠ s.heap.objs.size := fun e => Nat.ne_of_lt (Heap.lt_size e)
  have lo319 : ∀ {a : Addr}, 524 ≤ a → a ≠ 319 ∧ a ≠ 329 := fun h => ⟨ne_lo h 319, ne_lo h 329⟩
  have nMM : ∀ {a : Addr} {ys : Array Value} {n : Nat}, s.heap.get? a = some (lstO ys n) → 524 ≤ a → a ≠ D → a ∉ MM D s.heap.objs.size := fun e h5 hne hm => by
    obtain ⟨a1, a2, a3, a4⟩ := nlist e
    obtain ⟨a5, a6⟩ := lo319 h5
    simp only [MM, List.mem_cons, List.not_mem_nil, or_false] at hm
    rcases hm with g | g | g | g | g | g | g | g
    · exact a1 g
    · exact a2 g
    · exact a3 g
    · exact a4 g
    · exact a5 g
    · exact a6 g
    · exact hne g
    · exact nIt e g
  have I : Inv (pb w.params b1 b2) h1 D s.heap.objs.size f 6 os [] := ⟨F.keep K1 (fun a ha => by cases ha), ⟨_, k1 ht1⟩, ⟨_, k1 ht2⟩, k1 hL, ⟨_, k1 hc1⟩, ⟨_, k1 hc2⟩, ⟨_, k1 hc3⟩, ⟨R, xs, nr, hf_rows, k1 hR, hR5, nMM hR hR5 hRD, hrow.keep0 K1, fun i r e => ?_⟩, ⟨td, hf_data⟩, ⟨hf_done, _, _, k1 hD, .nil⟩, ⟨_, H1.at 0 rfl⟩, hD5, hsz, nIt hD, fun o e => by rw [H1.at 0 rfl] at e; cases e; rfl, hol, ho⟩
  · refine deeds_code hh hroom hfr (xs := dx) (zs := zs) I ⟨_, H1.at 0 rfl, rfl, rfl⟩ ⟨_, H1.at 2 rfl, rfl, nd, rfl⟩ (nMM hdl hdl5 hdlD) hi hz hz0 ?_
    intro s1 f1 n1 h2 tk R1 hn1 I1 g1 K2
    subst hn1
    refine go_fin [] 5 [] (.pure (.done .next)) [] [] 0 0 True (by simp) (by simp) (by clear hQ; cases b2 <;> kernel_rfl) trivial (by decide) ?_
    intro h3 p3 H3
    have K3 : Kp [] h2 h3 := H3.kpM _ fun b hb => by cases hb
    exact base_done' (hQ s1 f1 h3 _ s.heap.objs.size (none_of_ge (Nat.le_refl _)) (((Rel.of_kp (s := s) K1).mono fun _ h => by cases h).trans R1) I1 g1 (K2.trans (K3.mono fun _ h => by cases h)))
  · have hlt : i < os.length := by
      have h1 := (Array.getElem?_eq_some_iff.mp e).1
      have h2 := hrow.1
      simp only [Array.length_toList] at h2
      omega
    obtain ⟨r', g1, g2, t', n', g3⟩ := hrow.2 i _ (List.getElem?_eq_getElem hlt)
    rw [← Array.getElem?_toList, g1] at e
    cases e
    exact nMM g3 g2 (hrD i _ (by rw [← Array.getElem?_toList]; exact g1))
theorem pre_6 (hh : A.handled = none) (hroom : A.depth + 4 < recursionLimit) {f : LF} {D It0 : Addr} {vs : Array Value} {nd : Nat} {ds : List Deed} {os : List Int} {td : Tok} {tb1 tb2 : Option Addr} {v2 v3 : Option Value}
    (F : Fix (pb w.params b1 b2) s.heap) (ht1 : s.heap.get? 319 = some (tabO (genPos xoneGen) tb1)) (ht2 : s.heap.get? 329 = some (tabO (genPos xmanyGen) tb2)) (hL : s.heap.get? 525 = some (lawFr (pb w.params b1 b2) f 13)) (hc2 : s.heap.get? 527 = some (cellO v2)) (hc3 : s.heap.get? 528 = some (cellO v3))
    (hf_data : f.data = .bytes (byteArr (stepsD ds os)) td) (hf_done : f.done = .ref D) (hD : s.heap.get? D = some (lstO vs nd)) (hD5 : 524 ≤ D) (hdn : DoneAre s.heap (· ∉ MM D It0) vs.toList ds) (hok : ∀ d ∈ ds, DeedOk d) (hol : os.length ≤ 8) (ho : ∀ o ∈ os, 0 ≤ o ∧ o < 256)
    (hQ : ∀ s1 f' h2 tk It, s.heap.get? It = none → Rel (MM D It) s s1 → UInv (pb w.params b1 b2) s1.heap D It f' os vs ds → f'.first = f.first → Kp [It] s1.heap h2 → Q .next { s1 with heap := h2, toks := tk }) :
    wpF (model prg (wb w b1 b2)) A (execs [stmtAt lawB 6] LE) Q E s := by
  have nil : ∀ a : Addr, a ∉ ([] : List Addr) := fun a => by simp
  have hsz : 524 ≤ s.heap.objs.size := Nat.le_of_lt (Nat.lt_of_le_of_lt (by decide) (Heap.lt_size hL))
  have hfe : f = { f with done := .ref D } := by cases f; cases hf_done; rfl
  have hL1 : s.heap.get? 525 = some (lawFr (pb w.params b1 b2) { f with done := .ref D } 13) := by rw [hL]; exact congrArg some (congrArg (fun f => lawFr (pb w.params b1 b2) f 13) hfe)
  have nD1 : D ≠ 525 := by rintro rfl; rw [hL] at hD; exact absurd (congrArg Obj.cls (Option.some.inj hD)) (by simp [lawFr])
  have nD2 : D ≠ 527 := by rintro rfl; rw [hc2] at hD; exact absurd (congrArg Obj.cls (Option.some.inj hD)) (by simp)
  have nD3 : D ≠ 528 := by rintro rfl; rw [hc3] at hD; exact absurd (congrArg Obj.cls (Option.some.inj hD)) (by simp)
  have hlo : ∀ a ∈ ([525, D] : List Addr), 524 ≤ a := by
    intro a ha
    simp only [List.mem_cons, List.not_mem_nil, or_false] at ha
    rcases ha with rfl | rfl
    · decide
    · exact hD5
  refine wpF_execs1 (enter_f hh fun c own below past p hIn hF => ?_)
  refine go_callF hIn hF [(525, lawFr (pb w.params b1 b2) { f with done := .ref D } 13), (D, lstO vs nd), (3, ob3 (pb w.params b1 b2)), (0, ob0 (pb w.params b1 b2))] 33 [2, 3, 0, 1, 1, 1, 0, 0, 0, 0, 0] (.forLoop (forTarget forU) (.ref s.heap.objs.size) uB [] LE) [0, 1, 2, 3, 4]
    [(s.heap.objs.size, fldO "list_reverseiterator" #[.ref D, .int ((vs.size : Int) - 1) 0]), (525, lawFr (pb w.params b1 b2) { f with done := .ref D } 13), (D, lstO vs nd), (3, ob3 (pb w.params b1 b2)), (0, ob0 (pb w.params b1 b2))] 1 0 True ?_ (nd_fix (ws := [525, D]) (cs := [3, 0]) (by simp [nD1.symm]) hlo) (by clear hQ; cases b2 <;> kernel_rfl) trivial (by decide) ?_
  · simp only [List.mem_cons, List.not_mem_nil, or_false, forall_eq_or_imp, forall_eq]
    exact ⟨hL1, hD, F.get 2, F.get 0⟩
  intro h1 H1 A' hA' hh'
  have hAA : A' = A := by rw [hA']; cases b2 <;> kernel_rfl
  subst hAA
  have K1 : Kp [] s.heap h1 := H1.kpM _ fun b hb => by
    have : b ∈ [525, D, 3, 0] := hb
    simp only [List.mem_cons, List.not_mem_nil, or_false] at this
    rcases this with g | g | g | g
    · exact .inr (by rw [g]; exact ⟨_, hL1, by simp⟩)
    · exact .inr (by rw [g]; exact ⟨_, hD, by simp⟩)
    · exact .inr (by rw [g]; exact ⟨_, F.get 2, by simp⟩)
    · exact .inr (by rw [g]; exact ⟨_, F.get 0, by simp⟩)
  have k1 : ∀ {a : Addr} {o : Obj}, s.heap.get? a = some o → h1.get? a = some o := fun e => K1 _ _ e (nil _)
  have nIt : ∀ {a : Addr} {o : Obj}, s.heap.get? a = some o → a ≠ s.heap.objs.size := fun e => Nat.ne_of_lt (Heap.lt_size e)
  have hdn1 : DoneAre s.heap (· ∉ MM D s.heap.objs.size) vs.toList ds := hdn.mono fun a o ha e hm => ha (by
    simp only [MM, List.mem_cons, List.not_mem_nil, or_false] at hm ⊢
    rcases hm with g | g | g | g | g | g | g | g
    · simp [g]
    · simp [g]
    · simp [g]
    · simp [g]
    · simp [g]
    · simp [g]
    · simp [g]
    · exact absurd g (nIt e))
  have I : UInv (pb w.params b1 b2) h1 D s.heap.objs.size f (stepsD ds os) vs ds := ⟨F.keep K1 (fun a ha => by cases ha), ⟨_, k1 ht1⟩, ⟨_, k1 ht2⟩, k1 hL, ⟨_, k1 hc2⟩, ⟨_, k1 hc3⟩, ⟨td, hf_data⟩, hdn1.keep (K1.mono fun _ h => by cases h), hD5, hsz, ⟨(nIt hL).symm, (nIt hc2).symm, (nIt hc3).symm⟩, ⟨nD1, nD2, nD3⟩, by rw [stepsD_len]; exact hol, stepsD_oct _ _ hok ho⟩
  refine undo_code hh hroom hok ho hol I (nIt hD) ⟨_, H1.at 0 rfl, rfl, rfl⟩ ⟨_, H1.at 2 rfl, rfl, nd, rfl⟩ ?_
  intro s1 f1 h2 tk R1 I1 g1 K2
  refine go_fin [] 5 [] (.pure (.done .next)) [] [] 0 0 True (by simp) (by simp) (by clear hQ; cases b2 <;> kernel_rfl) trivial (by decide) ?_
  intro h3 p3 H3
  have K3 : Kp [] h2 h3 := H3.kpM _ fun b hb => by cases hb
  exact base_done' (hQ s1 f1 h3 _ s.heap.objs.size (none_of_ge (Nat.le_refl _)) (((Rel.of_kp (s := s) K1).mono fun _ h => by cases h).trans R1) I1 g1 (K2.trans (K3.mono fun _ h => by cases h)))
end
end Mine
end

section
open PySem PySem.W PySem.W.X PySem.Builtin PyProof.Rows
set_option maxRecDepth 100000
set_option linter.unusedVariables false
set_option linter.unusedSimpArgs false
namespace Mine
/-- the addresses below 529 that the law writes to -/
abbrev M0 : List Addr := [525, 526, 527, 528, 319, 329]
theorem Rel.dropAll {M N : List Addr} {s s' : Shared} (a : Rel (M ++ N) s s') (hM : ∀ T ∈ M, s.heap.get? T = none) : Rel N s s' := ⟨a.heap.dropAll hM, a.gens, a.drawn, a.os⟩
theorem mm_split (D It : Addr) : ∀ x ∈ MM D It, x ∈ [D, It] ++ M0 := by
  intro x hx
  simp only [MM, M0, List.mem_cons, List.not_mem_nil, or_false, List.mem_append] at hx ⊢
  rcases hx with g | g | g | g | g | g | g | g <;> simp [g]
section
variable {w : World} {b1 b2 : Bool} {A : Around} {s : Shared} {Q : Flow → Shared → Prop} {E : Value → Shared → Prop}
theorem law_main (hh : A.handled = none) (hroom : A.depth + 4 < recursionLimit) (hfr : A.frames = some [LE]) {f : LF} {sx : Array Value} {ns : Nat} {zs : List Int} {tb1 tb2 : Option Addr} {v1 v2 v3 : Option Value}
    (F : Fix (pb w.params b1 b2) s.heap) (ht1 : s.heap.get? 319 = some (tabO (genPos xoneGen) tb1)) (ht2 : s.heap.get? 329 = some (tabO (genPos xmanyGen) tb2)) (hf_script : f.script = .ref 524) (hL : s.heap.get? 525 = some (lawFr (pb w.params b1 b2) f 1)) (hc1 : s.heap.get? 526 = some (cellO v1)) (hc2 : s.heap.get? 527 = some (cellO v2)) (hc3 : s.heap.get? 528 = some (cellO v3))
    (hS : s.heap.get? 524 = some (lstO sx ns)) (hi : IntsAre sx.toList zs) (hz : zs.length ≤ 900)
    (hQ : ∀ s', Rel M0 s s' → (∃ tb, s'.heap.get? 319 = some (tabO (genPos xoneGen) tb)) → (∃ tb, s'.heap.get? 329 = some (tabO (genPos xmanyGen) tb)) → Q (.ret (.bool true)) s') :
    wpF (model prg (wb w b1 b2)) A (execs lawB LE) Q E s := by
  show wpF _ _ (execs [stmtAt lawB 0, stmtAt lawB 1, stmtAt lawB 2, stmtAt lawB 3, stmtAt lawB 4, stmtAt lawB 5, stmtAt lawB 6, stmtAt lawB 7] _) _ _ _
  have m525 : ∀ x ∈ [(525 : Addr)], x ∈ M0 := by simp [M0]
  have n5 : ∀ {a : Addr}, a ≠ 525 → a ∉ [(525 : Addr)] := fun h => by simpa using h
  have ex525 : ∀ {h : Heap} {o : Obj}, h.get? 525 = some o → Ex [(525 : Addr)] h := fun {h o} e a ha => ⟨o, by rw [List.mem_singleton.mp ha]; exact e⟩
  -- 0: the deeds
  refine wpF_execs_cons (.of (pre_0 hh F hf_script hL hS hi (by omega) ?_))
  intro h1 k1 t2 dl dx nd K1 e1 hdl hdi hdln hdl5
  have F1 := F.keepX (K1.mono m525) (by decide)
  have ndl : dl ≠ 525 := fun e => by rw [e, hL] at hdln; cases hdln
  have hzl : (zs.take 7 ++ moreL).length ≤ 1000 := by rw [List.length_append, List.length_take]; simp [moreL]; omega
  have hz0 : zs.take 7 ++ moreL ≠ [] := by simp [moreL]
  -- 1: the first octets
  refine wpF_execs_cons (.of (pre_1 hh (f := { f with t2 := t2, deeds := .ref dl }) F1 hdl5 ndl rfl e1 hdl hdi hzl hz0 ?_))
  intro h2 k2 t3 G gx ng K2 e2 hG hgi hGn hG5
  have F2 := F1.keepX (K2.mono m525) (by decide)
  have nG : G ≠ 525 := fun e => by rw [e, e1] at hGn; cases hGn
  obtain ⟨hol, ho⟩ := firstL_ok (zs.take 7 ++ moreL)
  -- 2: the rows
  refine wpF_execs_cons (.of (pre_2 hh (f := { f with t2 := t2, deeds := .ref dl, t3 := t3, first := .ref G }) F2 hG5 nG rfl e2 hG hgi hol ?_))
  intro h3 k3 t4 R xs nr K3 e3 hR hrow hRn hR5
  have F3 := F2.keepX (K3.mono m525) (by decide)
  -- 3: the data
  refine wpF_execs_cons (.of (pre_3 hh (f := { f with t2 := t2, deeds := .ref dl, t3 := t3, first := .ref G, t4 := t4, rows := .ref R }) F3 rfl e3 (K3 _ _ hG (n5 nG)) hgi hol ho ?_))
  intro h4 k4 t5 td K4 e4
  have F4 := F3.keepX (K4.mono m525) (by decide)
  -- 4: done
  refine wpF_execs_cons (.of (pre_4 hh (f := { f with t2 := t2, deeds := .ref dl, t3 := t3, first := .ref G, t4 := t4, rows := .ref R, t5 := t5, data := .bytes (byteArr (firstL (zs.take 7 ++ moreL))) td }) e4 ?_))
  intro h5 k5 t6 K5 e5 hD
  have F5 := F4.keepX (K5.mono m525) (by decide)
  have K05 : Kp [525] s.heap h5 := K1.trans (K2.trans (K3.trans (K4.trans K5)))
  have nR : R ≠ 525 := fun e => by rw [e, e2] at hRn; cases hRn
  have up : ∀ {a : Addr} {o : Obj}, s.heap.get? a = some o → a ≠ 525 → h5.get? a = some o := fun e hne => K05 _ _ e (n5 hne)
  have hdl4 := K4 _ _ (K3 _ _ (K2 _ _ hdl (n5 ndl)) (n5 ndl)) (n5 ndl)
  have hR4 := K4 _ _ hR (n5 nR)
  have hD5 : 524 ≤ h4.objs.size := Nat.le_of_lt (Nat.lt_of_le_of_lt (by decide) (Heap.lt_size e4))
  have hrow5 : RowsAre h5 xs.toList (firstL (zs.take 7 ++ moreL)) := ((hrow.keep K4 (ex525 e2)).keep K5 (ex525 e2)).rows
  have hrn : ∀ (i : Nat) r, xs[i]? = some (.ref r) → r ≠ h4.objs.size := fun i r e => by
    obtain ⟨o, ho', _⟩ := row_there ((hrow.keep K4 (ex525 e2)).rows) i r e
    exact Nat.ne_of_lt (Heap.lt_size ho')
  -- 5: the deeds' loop
  refine wpF_execs_cons (pre_5 hh hroom hfr (f := { f with t2 := t2, deeds := .ref dl, t3 := t3, first := .ref G, t4 := t4, rows := .ref R, t5 := t5, data := .bytes (byteArr (firstL (zs.take 7 ++ moreL))) td, t6 := t6, done := .ref h4.objs.size }) (D := h4.objs.size) (zs := zs.take 7 ++ moreL) (os := firstL (zs.take 7 ++ moreL))
    F5 (up ht1 (by decide)) (up ht2 (by decide)) e5 (up hc1 (by decide)) (up hc2 (by decide)) (up hc3 (by decide)) rfl rfl rfl rfl (K5 _ _ hdl4 (n5 ndl)) (K5 _ _ hR4 (n5 nR)) hD hR5 hD5 hdl5 (Nat.ne_of_lt (Heap.lt_size hdl4)) (Nat.ne_of_lt (Heap.lt_size hR4)) hrow5 hrn hdi hzl hz0 hol ho ?_)
  intro s6 f6 h7 k7 It1 hIt1 R6 I6 g6 K7
  obtain ⟨nD1, nD2, nD3, nD4, nI1, nI2, nI3, nI4⟩ := I6.ne
  obtain ⟨td6, hd6⟩ := I6.data
  obtain ⟨tb16, ht16⟩ := I6.t1; obtain ⟨tb26, ht26⟩ := I6.t2; obtain ⟨v26, hc26⟩ := I6.c2; obtain ⟨v36, hc36⟩ := I6.c3
  obtain ⟨d1, vs, nd6, d2, d3⟩ := I6.done
  have nI : ∀ {a : Addr}, a ≠ It1 → a ∉ [It1] := fun h => by simpa using h
  have n319 : (319 : Addr) ≠ It1 := fun e => by have := I6.i5; rw [← e] at this; exact absurd this (by decide)
  have n329 : (329 : Addr) ≠ It1 := fun e => by have := I6.i5; rw [← e] at this; exact absurd this (by decide)
  have mI : ∀ x ∈ [It1], x ∈ MM h4.objs.size It1 := by simp [MM]
  rw [stepsL_eq] at hd6
  -- 6: the undoing
  refine wpF_execs_cons (pre_6 hh hroom (f := f6) (D := h4.objs.size) (It0 := It1) (vs := vs) (nd := nd6) (ds := (zs.take 7 ++ moreL).map deedOf) (os := firstL (zs.take 7 ++ moreL)) (I6.fix.keepX (K7.mono mI) (mm_fix _ _ I6.d5 I6.i5)) (K7 _ _ ht16 (nI n319)) (K7 _ _ ht26 (nI n329)) (K7 _ _ I6.fr (nI nI1.symm)) (K7 _ _ hc26 (nI nI3.symm)) (K7 _ _ hc36 (nI nI4.symm))
    hd6 d1 (K7 _ _ d2 (nI I6.dIt)) I6.d5 (d3.keep (K7.mono mI)) (fun d hd => by obtain ⟨x, _, rfl⟩ := List.mem_map.mp hd; exact deed_ok x) hol ho ?_)
  intro s8 f8 h9 k9 It2 hIt2 R8 I8 g8 K9
  obtain ⟨td8, hd8⟩ := I8.data
  have nI2' : ∀ {a : Addr}, a ≠ It2 → a ∉ [It2] := fun h => by simpa using h
  have mI2 : ∀ x ∈ [It2], x ∈ MM h4.objs.size It2 := by simp [MM]
  -- the first octets' list stands
  have hG4 : h4.get? G = some (lstO gx ng) := K4 _ _ (K3 _ _ hG (n5 nG)) (n5 nG)
  have nGD : G ≠ h4.objs.size := Nat.ne_of_lt (Heap.lt_size hG4)
  have hG5' : h5.get? G = some (lstO gx ng) := K5 _ _ hG4 (n5 nG)
  have nlG : ∀ {h : Heap} {o : Obj} {k : Addr}, h5.get? k = some o → o.cls ≠ .type "list" → G ≠ k := fun {h o k} e hc e2 => by
    rw [← e2, hG5'] at e; cases e; exact hc rfl
  have nGM : G ∉ [525, 526, 527, 528, 319, 329, h4.objs.size] := fun hm => by
    simp only [List.mem_cons, List.not_mem_nil, or_false] at hm
    rcases hm with g | g | g | g | g | g | g
    · exact nG g
    · exact nlG (h := h5) (up hc1 (by decide)) (by simp) g
    · exact nlG (h := h5) (up hc2 (by decide)) (by simp) g
    · exact nlG (h := h5) (up hc3 (by decide)) (by simp) g
    · exact ne_lo hG5 319 (by decide) g
    · exact ne_lo hG5 329 (by decide) g
    · exact nGD g
  have nGI1 : G ≠ It1 := fun e => by
    have hIt1 : h5.get? It1 = none := hIt1
    rw [← e, hG5'] at hIt1; cases hIt1
  have mmG : ∀ {It : Addr}, G ≠ It → G ∉ MM h4.objs.size It := fun hne hm => nGM (by
    simp only [MM, List.mem_cons, List.not_mem_nil, or_false] at hm ⊢
    rcases hm with g | g | g | g | g | g | g | g
    · simp [g]
    · simp [g]
    · simp [g]
    · simp [g]
    · simp [g]
    · simp [g]
    · simp [g]
    · exact absurd g hne)
  have hG7 : h7.get? G = some (lstO gx ng) := K7 _ _ (R6.heap _ _ hG5' (mmG nGI1)) (nI nGI1)
  have nGI2 : G ≠ It2 := fun e => by
    have hIt2 : h7.get? It2 = none := hIt2
    rw [← e, hG7] at hIt2; cases hIt2
  have hG9 : h9.get? G = some (lstO gx ng) := K9 _ _ (R8.heap _ _ hG7 (mmG nGI2)) (nI2' nGI2)
  -- 7: the answer
  refine .of (pre_7 hh (f := f8) (I8.fix.keepX (K9.mono mI2) (mm_fix _ _ I8.d5 I8.i5)) (g8.trans g6) hd8 (K9 _ _ I8.fr (nI2' I8.nI.1.symm)) hG9 hgi hol ho ?_)
  intro h10 k10 K10
  obtain ⟨tb18, ht18⟩ := I8.t1; obtain ⟨tb28, ht28⟩ := I8.t2
  have n319' : (319 : Addr) ≠ It2 := fun e => by have := I8.i5; rw [← e] at this; exact absurd this (by decide)
  have n329' : (329 : Addr) ≠ It2 := fun e => by have := I8.i5; rw [← e] at this; exact absurd this (by decide)
  refine hQ _ ?_ ⟨_, K10 _ _ (K9 _ _ ht18 (nI2' n319')) (by simp)⟩ ⟨_, K10 _ _ (K9 _ _ ht28 (nI2' n329')) (by simp)⟩
  have hDn : s.heap.get? h4.objs.size = none := Ex.nn (M := [525]) (ex525 e4) (K1.trans (K2.trans (K3.trans K4))) (none_of_ge (Nat.le_refl _))
  have hIt1n : s.heap.get? It1 = none := Ex.nn (M := [525]) (ex525 e5) K05 hIt1
  have hIt2n : s.heap.get? It2 = none := by
    by_cases h12 : It2 = It1
    · rw [h12]; exact hIt1n
    cases e : s.heap.get? It2 with
    | none => rfl
    | some o =>
      exfalso
      have hIt2 : h7.get? It2 = none := hIt2
      have ne : ∀ {a : Addr} {o' : Obj}, h7.get? a = some o' → It2 ≠ a := fun e3 e4 => by rw [e4, e3] at hIt2; cases hIt2
      have h1 := ne (K7 _ _ I6.fr (nI nI1.symm))
      obtain ⟨v16, hc16⟩ := I6.c1
      have h2 := ne (K7 _ _ hc16 (nI nI2.symm))
      have h3 := ne (K7 _ _ hc26 (nI nI3.symm))
      have h4 := ne (K7 _ _ hc36 (nI nI4.symm))
      have h5' := ne (K7 _ _ ht16 (nI n319))
      have h6 := ne (K7 _ _ ht26 (nI n329))
      have h7' := ne (K7 _ _ d2 (nI I6.dIt))
      have := K7 _ _ (R6.heap _ _ (K05 _ _ e (n5 h1)) (by simp [MM, h1, h2, h3, h4, h5', h6, h7', h12])) (nI h12)
      rw [hIt2] at this; cases this
  have a1 : Rel ([h4.objs.size, It1, It2] ++ M0) s { s with heap := h5, toks := k5 } := (Rel.of_kp K05).mono fun x hx => by
    rw [List.mem_singleton.mp hx]; simp [M0]
  have sub1 : ∀ x ∈ MM h4.objs.size It1, x ∈ [h4.objs.size, It1, It2] ++ M0 := fun x hx => by
    simp only [MM, M0, List.mem_cons, List.not_mem_nil, or_false, List.mem_append] at hx ⊢
    rcases hx with g | g | g | g | g | g | g | g <;> simp [g]
  have sub2 : ∀ x ∈ MM h4.objs.size It2, x ∈ [h4.objs.size, It1, It2] ++ M0 := fun x hx => by
    simp only [MM, M0, List.mem_cons, List.not_mem_nil, or_false, List.mem_append] at hx ⊢
    rcases hx with g | g | g | g | g | g | g | g <;> simp [g]
  have a2 := a1.trans (R6.mono sub1)
  have a3 := a2.trans ((Rel.of_kp (s := s6) (tk := k7) K7).mono fun x hx => by rw [List.mem_singleton.mp hx]; simp)
  have a4 := a3.trans (R8.mono sub2)
  have a5 := a4.trans ((Rel.of_kp (s := s8) (tk := k9) K9).mono fun x hx => by rw [List.mem_singleton.mp hx]; simp)
  have a6 := a5.trans ((Rel.of_kp (s := { s8 with heap := h9, toks := k9 }) (tk := k10) K10).mono fun _ h => by cases h)
  refine a6.dropAll fun T hT => ?_
  simp only [List.mem_cons, List.not_mem_nil, or_false] at hT
  rcases hT with rfl | rfl | rfl
  · exact hDn
  · exact hIt1n
  · exact hIt2n
end
end Mine
end

section
open PySem PySem.W PySem.W.X PySem.Builtin PyProof.Rows
set_option maxRecDepth 100000
set_option linter.unusedVariables false
set_option linter.unusedSimpArgs false
namespace Mine
def lf0 (t : Tok) : LF := ⟨t, 0, 0, 0, 0, 0, 0, 0, 0, 0, 0, 0, 0, .ref 524, .none, .none, .none, .none, .none, .none, .none, .none, .none, .none, .none, .none, #[]⟩
section
variable {w : World} {b1 b2 : Bool} {A : Around} {s : Shared}
theorem law_bind (a : Value) : bindArgs (fdOf ob523) ⟨[a], []⟩ = pure [(("script" : Str), a)] := by kernel_rfl
theorem law_call (hh : A.handled = none) (hroom : A.depth + 100 < recursionLimit) (hfr : A.frames = some []) {R : Result → Shared → Prop} {sx : Array Value} {ns : Nat} {zs : List Int} {tb1 tb2 : Option Addr} (hN : s.heap.objs.size = 525) (F : Fix (pb w.params b1 b2) s.heap)
    (ht1 : s.heap.get? 319 = some (tabO (genPos xoneGen) tb1)) (ht2 : s.heap.get? 329 = some (tabO (genPos xmanyGen) tb2)) (hS : s.heap.get? 524 = some (lstO sx ns)) (hi : IntsAre sx.toList zs) (hz : zs.length ≤ 900)
    (hR : ∀ s', Rel [319, 329] s s' → (∃ tb, s'.heap.get? 319 = some (tabO (genPos xoneGen) tb)) → (∃ tb, s'.heap.get? 329 = some (tabO (genPos xmanyGen) tb)) → R (.ok (.ret (.bool true))) s') :
    codeF (model prg (wb w b1 b2)) A (.call (.ref 523) ⟨[.ref 524], []⟩) R s := by
  have hroom0 : A.depth < recursionLimit := by omega
  refine codeF_call_function (fd := fdOf ob523) hroom0 (F.get 17) rfl rfl rfl rfl ⟨522, _, _, _, rfl, F.get 16, rfl, rfl⟩ ?_
  refine wpAny_of_eq (law_bind _) ?_
  rw [newEnv_eq]
  refine wpAny_envF (any_fin hh [] 20 [3, 3] (.again (.func [] (lawEnv s.heap.objs.size (s.heap.objs.size + 1) (s.heap.objs.size + 2) (s.heap.objs.size + 3)))) [3, 2, 1, 0]
    [(s.heap.objs.size, lawFr (pb w.params b1 b2) (lf0 s.toks) 1), (s.heap.objs.size + 1, cellO none), (s.heap.objs.size + 2, cellO none), (s.heap.objs.size + 3, cellO none)] 4 1 True (by simp) (by simp) (fun _ _ _ _ _ => by clear hR; kernel_rfl) trivial (by decide) ?_)
  intro h1 H1
  have K1 : Kp [] s.heap h1 := H1.kpM _ fun b hb => by cases hb
  have F1 := F.keep K1 (fun a ha => by cases ha)
  have nil : ∀ a : Addr, a ∉ ([] : List Addr) := fun a => by simp
  refine ⟨nolimit_ob2 (F1.get 1), ?_⟩
  rw [hN] at H1 ⊢
  show codeF _ A (.func lawB LE) R _
  have hhd : (A.deeper LE).handled = none := hh
  have hfd : (A.deeper LE).frames = some [LE] := Around.frames_deeper hfr
  refine codeF_func (law_main hhd (by show A.depth + 1 + 4 < _ ; omega) hfd (f := lf0 s.toks) (sx := sx) (ns := ns) (zs := zs) F1 (K1 _ _ ht1 (nil _)) (K1 _ _ ht2 (nil _)) rfl (H1.at 0 rfl) (H1.at 1 rfl) (H1.at 2 rfl) (H1.at 3 rfl) (K1 _ _ hS (nil _)) hi hz ?_)
  intro s' R1 T1 T2
  have a1 : Rel M0 s s' := ((Rel.of_kp (s := s) K1).mono fun _ h => by cases h).trans R1
  have a2 : Rel ([525, 526, 527, 528] ++ [319, 329]) s s' := a1.mono fun x hx => by
    simp only [M0, List.mem_cons, List.not_mem_nil, or_false, List.mem_append] at hx ⊢
    rcases hx with g | g | g | g | g | g <;> simp [g]
  refine hR s' (a2.dropAll fun T hT => none_of_ge ?_) T1 T2
  rw [hN]
  simp only [List.mem_cons, List.not_mem_nil, or_false] at hT
  rcases hT with rfl | rfl | rfl | rfl <;> decide
end
end Mine
end

section
open PySem PySem.Spec PySem.Calls PyProof.Rows PySem.W
set_option maxRecDepth 100000
namespace Mine
/-- the context the claim's call runs in -/
abbrev G0 : PySem.Ctx := ⟨.builtin "claim.caller" {}, none, none, [], none⟩
def At0 {α : Type} (M : Model) (t : Sem α) (Q : α → Shared → Prop) (E : Value → Shared → Prop) (s : Shared) : Prop := ∀ p, Sem.wp M G0 t (fun a _ s' => Q a s') (fun e _ s' => E e s') p s
theorem At0.of {α : Type} {M : Model} {t : Sem α} {Q : α → Shared → Prop} {E : Value → Shared → Prop} {s : Shared} (h : wpAny M callerA t Q E s) : At0 M t Q E s := fun p => h _ p caller_in
theorem At0.mono {α : Type} {M : Model} {t : Sem α} {Q Q' : α → Shared → Prop} {E E' : Value → Shared → Prop} {s : Shared} (h : At0 M t Q E s) (hq : ∀ a s', Q a s' → Q' a s') (he : ∀ e s', E e s' → E' e s') : At0 M t Q' E' s := fun p =>
  Sem.wp_mono M G0 t (fun a _ s' h' => hq a s' h') (fun e _ s' h' => he e s' h') p s (h p)
theorem At0.bind {α β : Type} {M : Model} {t : Sem α} {f : α → Sem β} {Q : β → Shared → Prop} {E : Value → Shared → Prop} {s : Shared} (h : At0 M t (fun a s' => At0 M (f a) Q E s') E s) : At0 M (t >>= f) Q E s := fun p => by
  rw [Sem.wp_bind']
  exact Sem.wp_mono M G0 t (fun a p' s' h' => h' p') (fun _ _ _ h' => h') p s (h p)
theorem At0.pure {α : Type} {M : Model} {a : α} {Q : α → Shared → Prop} {E : Value → Shared → Prop} {s : Shared} (h : Q a s) : At0 M (Pure.pure a) Q E s := fun p => by
  rw [Sem.wp_pure']; exact h
theorem ends0 {prog : Program} {w : World} {t : Sem Fin} {s : Shared} {R : Result → Shared → Prop} (hreg : s.asleep)
    (h : At0 (model prog w) t (fun fin s' => ∃ f, fin = .done f ∧ (R (.ok f) s' ∧ leftWithCleanup s'.gens = false)) (fun e s' => R (.error e) s' ∧ leftWithCleanup s'.gens = false) s) :
    ∃ n r s' s'', runN (denote table) prog w n s ⟨t, .builtin "claim.caller" {}, default, []⟩ = .halted (outcomeOf r) s' ∧
      schedN (denote table) prog w n (.single s ⟨t, .builtin "claim.caller" {}, default, []⟩) = .halted (outcomeOf r) s' ∧ s'.forget = s''.forget ∧ R r s'' := by
  obtain ⟨n, r, s₁, s₂, hs, hn, hfo, hR⟩ := wp_halts_full (M := model prog w) (R := R) hreg (Sem.wp_mono _ _ t (fun fin p' s' h' => by
    obtain ⟨f, rfl, hf⟩ := h'
    exact hf) (fun _ _ _ h' => h') default s (h default))
  exact ⟨n, r, s₂, s₁, hn, hs, hfo, hR⟩
theorem callFrom0 {c : ClaimW} {tree : List Value → Sem Fin} {w : World} {s : Shared} {free : Addr → Prop} {gens : Prop} {kept : Heap → Prop} (hz : s.asleep) (hgens : s.gens = #[])
    (hspec : ∀ args, c.pre args = true → WData.layableAll args = true →
      ∀ ord : List DictEntry → List DictEntry, (∀ l, (ord l).Perm l) →
      ∃ vs s₁, layAllW c.records (classAt s.heap) w.params ord args s = some (vs, s₁) ∧
        At0 (model c.prog w) (tree vs) (fun fin s' => ∃ f, fin = .done f ∧ (c.Ends s args vs s₁ (.ok f) s' ∧ s'.os = s.os ∧ AllBare s'.gens ∧ kept s'.heap))
          (fun e s' => c.Ends s args vs s₁ (.error e) s' ∧ s'.os = s.os ∧ AllBare s'.gens ∧ kept s'.heap) s₁) :
    c.CallFrom (fun vs => ⟨tree vs, .builtin "claim.caller" {}, default, []⟩) w free gens kept s := by
  intro args hpre hlay ord hord
  obtain ⟨vs, s₁, hlaid, hcode⟩ := hspec args hpre hlay ord hord
  have hal := layAllW_rest _ _ _ hlaid
  obtain ⟨k, r, s', s'', hrun, hsched, hfo, hcase, hos, hkp⟩ := ends0 (prog := c.prog) (w := w) (t := tree vs) (s := s₁)
    (R := fun r s' => c.Ends s args vs s₁ r s' ∧ s'.os = s.os ∧ kept s'.heap)
    (Shared.asleep_of_life hal.2.2.2 hz)
    (hcode.mono (by
      rintro fin s' ⟨f, e, h1, h2, h3, h4⟩
      exact ⟨f, e, ⟨h1, h2, h4⟩, leftWithCleanup_false_of_bare h3⟩) (by
      rintro e s' ⟨h1, h2, h3, h4⟩
      exact ⟨⟨h1, h2, h4⟩, leftWithCleanup_false_of_bare h3⟩))
  obtain ⟨eh, _, _, eo, _⟩ := Shared.forget_eq hfo
  have hcase := hcase.congr eh
  have hkp : kept s'.heap := by rw [eh]; exact hkp
  rw [← eo] at hos
  have hlife : s'.heap.life = s.heap.life := (runN_life _ _ _ hrun).trans hal.2.2.2
  refine ⟨vs, s₁, hlaid, k, _, s', hsched, ?_, (fun _ i x hx => by rw [hgens] at hx; simp at hx), hkp, by rw [hlife], Shared.rest_eq hos⟩
  rcases hcase with ⟨v, rfl, d1, d2, d3, d4, d5⟩ | ⟨e, ob, cls, rfl, d1, d2, d3, d4, d5⟩
  · exact .inl ⟨v, rfl, d1, d2, d3, fun b o y _ => d4 b o y, d5⟩
  · exact .inr ⟨e, ob, cls, rfl, d1, d2, d3, d4, fun b o y _ => d5 b o y⟩
theorem openAny0 {r : RowW} {run : Value → List Value → Sem Value} {tree : List Value → Sem Fin} {q : Program} {loose defs kps : List Str} {writes : Bool} {Xt : Shared → Bool} {XP : (Str → Option Value) → Heap → Prop} {α : Type} {Yf : Shared → α} {Ya : World → α} {N : Nat}
    (left : LeftO r.prog q loose Xt Yf Ya N) (hX : ∀ s, Xt s = true → XP (s.heap.nsMap mainGlobals) s.heap) (hXk : ∀ mg h h', XP mg h → (∀ b o, h.get? b = some o → h'.get? b = some o) → XP mg h')
    (hRf : ∀ s, Xt s = true → RecFacts r.records s.heap) (hwr : (!writes || r.records.isEmpty) = true) (ok : (chainsOk q && opensWell r.prog && (frees r && r.within.isEmpty)) = true) (hb : r.prog.bare) (hw : r.promised)
    (ht : ∀ vs (w : World) (s : Shared) mg f (Q : Fin → Shared → Prop) (E : Value → Shared → Prop), s.heap.Ns mainGlobals mg → mg r.name = some f → At0 (model r.prog w) (run f vs) (fun v s' => Q (.done (.ret v)) s') E s → At0 (model r.prog w) (tree vs) Q E s)
    (pin : ∀ w s, s.heap.isNs mainGlobals = true → Ground q loose [] XP w s (s.heap.nsMap mainGlobals) (s.heap.nsMap builtinsNs) s.heap → ∀ n ∈ defs, isTheDefsW r.prog s.heap n)
    (call : ∀ (w : World) (s₀ s₁ : Shared) (mg mb : Str → Option Value), Ground q loose r.records XP w s₀ mg mb s₁.heap → Yf s₀ = Ya w → ∀ (args : List WData) (vs : List Value) (as : List Addr),
      r.claim.pre args = true → WData.layableAll args = true → Laid r.records w s₀ s₁ args vs as → sysModules < s₀.heap.objs.size → ∃ f, mg r.name = some f ∧
        At0 (model r.prog w) (run f vs) (fun v s' => GoodWG r.claim (classAt s₀.heap) (ExcName.means s₀.heap) args s₁ (.ok (.ret v)) s')
          (fun e s' => GoodWG r.claim (classAt s₀.heap) (ExcName.means s₀.heap) args s₁ (.error e) s') s₁) : r.claim.HoldsOpenBy (fun vs => ⟨tree vs, .builtin "claim.caller" {}, default, []⟩) defs kps writes := by
  obtain ⟨ok, k5⟩ := Bool.and_eq_true_iff.mp ok
  obtain ⟨hch, o1⟩ := Bool.and_eq_true_iff.mp ok
  obtain ⟨k5, k6⟩ := Bool.and_eq_true_iff.mp k5
  obtain ⟨hsame, hu, ha, hap, hm⟩ := frees_parts k5
  refine ⟨⟨hb, o1, by show r.makers.map _ = []; rw [hm]; rfl⟩, hw.witness, fun w => ⟨(left.behind hX hch w).1, fun s' hs' => ?_⟩⟩
  obtain ⟨s₀, hf, hg0, s, hT, hz, hgens, hg, G00, y⟩ := (left.behind (XP := fun mg h => XP mg h ∧ RecFacts r.records h) (fun s hs => ⟨hX s hs, hRf s hs⟩) hch w).2 s' hs'
  have G0' : Ground q loose [] XP w s (s.heap.nsMap mainGlobals) (s.heap.nsMap builtinsNs) s.heap := ⟨G00.T, G00.B, G00.D, G00.TE, G00.TD, G00.W, G00.X.1, G00.cls, G00.has, G00.apart, G00.once, G00.K⟩
  have RF := G00.X.2
  have hT' := hT
  refine ⟨s₀, hf, hg0, s, hT, pin w s hg G0', RF.1, RF.2.1, ?_⟩
  have hgens : s.gens = #[] := Array.eq_empty_of_size_eq_zero (beq_iff_eq.mp hgens)
  have G : Ground q loose r.records XP w s _ _ s.heap := RF.ground G0'
  refine callFrom0 (c := r.claim) hz hgens fun args hpre hlay ord hord => ?_
  obtain ⟨⟨vs, s₁⟩, hlaid⟩ := Option.isSome_iff_exists.mp (layAllW_isSome (P := w.params) (ord := ord) G.has args r.args s (pre_splitW hpre).1)
  have keeps := layAllW_keeps _ _ _ hlaid
  have hal := layAllW_rest _ _ _ hlaid
  obtain ⟨as, hrd, hin, hold⟩ := reads_layAllW hord _ _ _ hlaid hlay s₁.heap (fun _ _ e => e)
  have L : Laid r.records w s s₁ args vs as := ⟨⟨ord, hord, hlaid⟩, hrd, hin, hold, keeps, hal.1.trans hgens, hal.2.2.1⟩
  have G₁ := G.keeps hXk keeps
  obtain ⟨f, hf, h⟩ := call w s s₁ _ _ G₁ y args vs as hpre hlay L G.low
  have hi := ident_freeW hu ha hap
  have hwi : r.claim.within = [] := List.isEmpty_iff.mp k6
  exact ⟨vs, s₁, hlaid, ht vs w s₁ _ f _ _ G₁.T.g hf (h.mono (fun v s' g => ⟨_, rfl, have z := g.laid (c := r.claim) hsame hwi hi L; ⟨z.1, z.2.1, z.2.2, fun q => ⟨namesKept_of hT' hg kps keeps g.2.1.old, noTable hwr q⟩⟩⟩) fun e s' g => have z := g.laid (c := r.claim) hsame hwi hi L; ⟨z.1, z.2.1, z.2.2, fun q => ⟨namesKept_of hT' hg kps keeps g.2.1.old, noTable hwr q⟩⟩)⟩
abbrev Walk0 (q : Program) (loose : List Str) (XP : (Str → Option Value) → Heap → Prop) {α : Type} (Yf : Shared → α) (Ya : World → α) (r : RowW) (d : DefRec) (kwd : List (Str × Expr)) (run : Value → List Value → Sem Value) : Prop :=
  ∀ (w : World) (s₀ s₁ : Shared) (mg mb : Str → Option Value), Ground q loose r.records XP w s₀ mg mb s₁.heap → Yf s₀ = Ya w → ∀ (a : Addr) (o : Obj) (pm cd doc dV kV : Value), s₁.heap.get? a = some o →
    o.data = .func { docDef d.name d.params d.body d.scope pm cd doc with defaults := dV, kwdefaults := kV } → s₁.heap.CodeRec cd d.name → Dflts mg s₁.heap d.params kwd dV kV → mg d.name = some (.ref a) → s₁.gens = #[] →
    ∀ (args : List WData) (vals : List Value) (as : List Addr), Laid r.records w s₀ s₁ args vals as → r.claim.pre args = true → WData.layableAll args = true → ReadsAllW r.records (classAt s₀.heap) s₁.heap vals args as → WellAll w.params s₁.heap vals args → (∀ a ∈ as, (a == sysModules) = false) →
      At0 (model r.prog w) (run (.ref a) vals) (fun v s' => GoodWG r.claim (classAt s₀.heap) (ExcName.means s₀.heap) args s₁ (.ok (.ret v)) s')
        (fun e s' => GoodWG r.claim (classAt s₀.heap) (ExcName.means s₀.heap) args s₁ (.error e) s') s₁
theorem PySem.W.holds_openX {r : OpenRow} {q : Program} {loose : List Str} {Xt : Shared → Bool} {XP : (Str → Option Value) → Heap → Prop} {α : Type} {Yf : Shared → α} {Ya : World → α} {d : DefRec} {kwd : List (Str × Expr)} {N : Nat}
    (left : LeftO r.prog q loose Xt Yf Ya N)
    (hX : ∀ s, Xt s = true → XP (s.heap.nsMap mainGlobals) s.heap) (hXk : ∀ mg h h', XP mg h → (∀ b o, h.get? b = some o → h'.get? b = some o) → XP mg h')
    (hdef : defOf q r.name = some (d, kwd)) (hp : r.prog.theDef r.name = some (d.params, d.body, d.scope)) (hk : kwWritten? d.params.kwonlyargs d.params.kw_defaults = some kwd) (hRf : ∀ s, Xt s = true → RecFacts r.records s.heap) (hwr : (!r.writes || r.records.isEmpty) = true)
    (k1 : r.wellSaid = true) (ok : (chainsOk q && opensWell r.prog && (frees r.toRowW && r.within.isEmpty)) = true) (hb : r.prog.bare) (hw : r.toRowW.promised)
    (call : Walk0 q loose XP Yf Ya r.toRowW d kwd fun f vs => PySem.call f vs) : r.Holds := by
  refine ⟨k1, hw, openAny0 (r := r.toRowW) (run := fun f vs => PySem.call f vs) (tree := fun vs => do match ← nsGet mainNs r.name with
      | some f => do ret (← PySem.call f vs)
      | none => unsupported "claim.caller:no-such-global") left hX hXk hRf hwr ok hb hw
    (fun vs w s mg f Q E hg hf h => At0.bind (At0.of (wpAny_nsGet hg (by rw [hf]; exact At0.bind (h.mono (fun _ _ x => At0.pure x) fun _ _ x => x)))))
    (fun w s hg G n hn => ?_) fun w s₀ s₁ mg mb G Y args vs as hpre hlay L low => ?_⟩
  · obtain rfl : n = r.name := by split at hn <;> simp_all
    exact pinned_of_view hg G hdef hp hk
  · obtain ⟨a, o, pm, cd, doc, dV, kV, h1, h2, h3, h4, h5⟩ := G.fn hdef
    exact ⟨.ref a, h1, call w s₀ s₁ mg mb G Y a o pm cd doc dV kV h2 h3 h4 h5 (defOf_name hdef ▸ h1) L.gens args vs as L hpre hlay L.reads L.well (L.low low)⟩
end Mine
end

section
open PySem PySem.W PySem.W.X PySem.Builtin PyProof.Rows
set_option maxRecDepth 100000
set_option linter.unusedVariables false
set_option linter.unusedSimpArgs false
namespace Mine
theorem lawW {w : World} {A : Around} {s : Shared} (hh : A.handled = none) (hroom : A.depth + 100 < recursionLimit) (hfr : A.frames = some []) {R : Result → Shared → Prop} {sx : Array Value} {ns : Nat} {zs : List Int} {tb1 tb2 : Option Addr} (hN : s.heap.objs.size = 525) (F : Fix w.params s.heap)
    (ht1 : s.heap.get? 319 = some (tabO (genPos xoneGen) tb1)) (ht2 : s.heap.get? 329 = some (tabO (genPos xmanyGen) tb2)) (hS : s.heap.get? 524 = some (lstO sx ns)) (hi : IntsAre sx.toList zs) (hz : zs.length ≤ 900)
    (hR : ∀ s', Rel [319, 329] s s' → (∃ tb, s'.heap.get? 319 = some (tabO (genPos xoneGen) tb)) → (∃ tb, s'.heap.get? 329 = some (tabO (genPos xmanyGen) tb)) → R (.ok (.ret (.bool true))) s') :
    codeF (model prg w) A (.call (.ref 523) ⟨[.ref 524], []⟩) R s := by
  have e := wb_self w
  have e2 : pb w.params (w.params.followText "comprehension-iter-twice") (w.params.followText "special-get-raises") = w.params := congrArg World.params e
  have z := law_call (w := w) (b1 := w.params.followText "comprehension-iter-twice") (b2 := w.params.followText "special-get-raises") (R := R) hh hroom hfr hN (by rw [e2]; exact F) ht1 ht2 hS hi hz hR
  rw [e] at z
  exact z
theorem law_top {w : World} {s : Shared} {Q : Value → Shared → Prop} {E : Value → Shared → Prop} {sx : Array Value} {ns : Nat} {zs : List Int} {tb1 tb2 : Option Addr} (hN : s.heap.objs.size = 525) (F : Fix w.params s.heap)
    (ht1 : s.heap.get? 319 = some (tabO (genPos xoneGen) tb1)) (ht2 : s.heap.get? 329 = some (tabO (genPos xmanyGen) tb2)) (hS : s.heap.get? 524 = some (lstO sx ns)) (hi : IntsAre sx.toList zs) (hz : zs.length ≤ 900)
    (hQ : ∀ s', Rel [319, 329] s s' → (∃ tb, s'.heap.get? 319 = some (tabO (genPos xoneGen) tb)) → (∃ tb, s'.heap.get? 329 = some (tabO (genPos xmanyGen) tb)) → Q (.bool true) s') :
    At0 (model prg w) (PySem.call (.ref 523) [.ref 524]) Q E s := fun p => by
  unfold PySem.call
  rw [Sem.wp_runValue]
  have hB : (G0.enter (.call (.ref 523) ⟨[.ref 524], []⟩) none p).Below callerA := by
    have z := caller_in.enter (.call (.ref 523) ⟨[.ref 524], []⟩) none p (by simp)
    have hm : ∀ A : Around, A.mark none = A := fun A => by cases A; rfl
    rw [hm] at z
    exact z
  exact lawW (A := callerA) rfl (by decide +kernel) rfl hN F ht1 ht2 hS hi hz (fun s' R1 T1 T2 => hQ s' R1 T1 T2) _ p rfl hB (fun x hx => by
    rw [List.mem_singleton.mp hx]
    exact freeW_free (c := .builtin "claim.caller" {}) (by decide +kernel))
theorem law_good {P : Params} {c : ClaimW} {cl : Str → Option Addr} {mean : ExcName → Option Value} {args : List WData} {s₁ s' : Shared} (F : Fix P s₁.heap) (h1 : s₁.heap.get? 319 = some (tabO (genPos xoneGen) none)) (h2 : s₁.heap.get? 329 = some (tabO (genPos xmanyGen) none))
    (R1 : Rel [319, 329] s₁ s') (T1 : ∃ tb, s'.heap.get? 319 = some (tabO (genPos xoneGen) tb)) (T2 : ∃ tb, s'.heap.get? 329 = some (tabO (genPos xmanyGen) tb)) (hr : ∀ cls, c.raises args cls = false) (hp : c.post args (.bool true) args = true) (hg : s₁.gens = #[]) :
    GoodWG c cl mean args s₁ (.ok (.ret (.bool true))) s' := by
  obtain ⟨tb1, T1⟩ := T1
  obtain ⟨tb2, T2⟩ := T2
  have c1 : isCodeTable s₁.heap 319 := ⟨323, _, _, F.get 4, rfl, rfl, rfl⟩
  have c2 : isCodeTable s₁.heap 329 := ⟨333, _, _, F.get 5, rfl, rfl, rfl⟩
  have tab : ∀ (b : Addr) (p : Pos) (tb : Option Addr), isCodeTable s₁.heap b → s'.heap.get? b = some (tabO p tb) → asItWas s₁.heap s'.heap b (tabO p none) := fun b p tb hc e => by
    cases tb with
    | none => exact .inl e
    | some c => exact .inr (.inl ⟨hc, rfl, #[], #[rawInt p.line, rawInt p.col, .ref c], rfl, by rw [e]; rfl⟩)
  refine ⟨.inl ⟨_, _, [], rfl, hr, ReadsW.bool true, hp, fun _ => ⟨List.nodup_nil, fun _ hm => (nomatch hm)⟩⟩, ⟨fun b o e => ?_, fun b o e => ?_⟩, R1.os, R1.gens (AllBare.of_eq hg)⟩
  · by_cases hb : b ∈ ([319, 329] : List Addr)
    · simp only [List.mem_cons, List.not_mem_nil, or_false] at hb
      rcases hb with rfl | rfl
      · rw [h1] at e; cases e; exact tab _ _ _ c1 T1
      · rw [h2] at e; cases e; exact tab _ _ _ c2 T2
    · exact .inl (R1.heap _ _ e hb)
  · by_cases hb : b ∈ ([319, 329] : List Addr)
    · simp only [List.mem_cons, List.not_mem_nil, or_false] at hb
      rcases hb with rfl | rfl
      · exact ⟨_, T1⟩
      · exact ⟨_, T2⟩
    · exact ⟨_, R1.heap _ _ e hb⟩
end Mine
end
section
open PySem PySem.W PyProof.Rows PySem.W.X PySem.W.ZRun
set_option maxRecDepth 100000
set_option maxHeartbeats 8000000
namespace Mine
theorem th : PySem.Challenge.rw_fe0168_01.Holds := by
  w_on
  o_law
  z_head
  case hw => w_witness2
  k_fill
  intro w s₀ s₁ mg mb G y fa o pm cd doc dV kV ho hd hcd hD hmg hg args vals as L hpre hlay hrd hwl hlo
  z_open y L KX ZH ZN ZT
  refine Ground.open G ?_
  intro T B D TE TW
  wrow_args hpre hlay hrd hwl hlo
  obtain ⟨hat, hsz⟩ := script_at L
  rw [ZN] at hat hsz
  subst hat
  x_fa T KX hmg
  all_lens
  rename IntsAre _ _ => hia
  rename Heap.IsList _ _ _ => hil
  have hobj := script_obj L hil
  clear hmg hd hcd hD ho
  have F : Fix w.params s₁.heap := by
    intro x hx
    simp only [fixL, List.mem_cons, List.not_mem_nil, or_false] at hx
    rcases hx with rfl | rfl | rfl | rfl | rfl | rfl | rfl | rfl | rfl | rfl | rfl | rfl | rfl | rfl | rfl | rfl | rfl | rfl <;> exact kt_at ZH (by kernel_rfl)
  have t1 : s₁.heap.get? 319 = some (tabO (genPos xoneGen) none) := kt_at ZH (by kernel_rfl)
  have t2 : s₁.heap.get? 329 = some (tabO (genPos xmanyGen) none) := kt_at ZH (by kernel_rfl)
  show At0 (model prg w) (PySem.call (.ref 523) [.ref 524]) _ _ s₁
  refine law_top hsz F t1 t2 hobj hia (by omega) ?_
  intro s' R1 T1 T2
  exact law_good F t1 t2 R1 T1 T2 (fun _ => rfl) (by first | rfl | wrow_post) hg
end Mine
end
theorem PySem.Challenge.cw_fe0168_01_holds : PySem.Challenge.rw_fe0168_01.Holds := by
  exact Mine.th
