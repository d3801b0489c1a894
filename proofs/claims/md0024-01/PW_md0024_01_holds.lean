import PyProof.Rows.All
import Wide.All
import OpenK.AllK
import Wide.FinOn
import Open.Boot
import Imp.OlderA
import Lean
import PySem.Challenge.RW_md0024_01
set_option maxRecDepth 100000
set_option Elab.async false
namespace Mine
open PySem PySem.W PyProof.Rows PySem.Calls
open Sem (wp)

/-! ## The logic over stacks on which no decoder stands -/
def nodec : Code → Bool
  | .builtin id _ => !(Builtin.Bytes.decodersThatHold.contains id)
  | _ => true
def CleanB (l : List (Code × Pos)) : Prop := ∀ x ∈ l, nodec x.1 = true
def Clean (Γ : Ctx) : Prop := nodec Γ.code = true ∧ CleanB Γ.below
theorem Clean.enter {Γ : Ctx} (h : Clean Γ) (c : Code) (hd : Option Value) (p : Pos) : CleanB (Γ.enter c hd p).below := by
  intro x hx
  rcases List.mem_cons.mp hx with rfl | hx
  · exact h.1
  · exact h.2 x hx

def wpC {α : Type} (M : Model) (A : Around) (t : Sem α) (Q : α → Shared → Prop) (E : Value → Shared → Prop) (s : Shared) : Prop :=
  ∀ Γ p, Γ.In A → Clean Γ → wp M Γ t (fun a _ s' => Q a s') (fun e _ s' => E e s') p s
def codeC (M : Model) (A : Around) (c : Code) (R : Result → Shared → Prop) (s : Shared) : Prop :=
  ∀ Γ p, Γ.code = c → Γ.Below A → CleanB Γ.below → wpCode M Γ R p s

section
variable {α β : Type} {M : Model} {A : Around} {E : Value → Shared → Prop} {s : Shared}
theorem wpC_of_any {t : Sem α} {Q : α → Shared → Prop} (h : wpAny M A t Q E s) : wpC M A t Q E s := fun Γ p hΓ _ => h Γ p hΓ
theorem codeC_of_any {c : Code} {R : Result → Shared → Prop} (h : codeAny M A c R s) : codeC M A c R s := fun Γ p hc hΓ _ => h Γ p hc hΓ
theorem wpC_pure {a : α} {Q : α → Shared → Prop} (h : Q a s) : wpC M A (pure a) Q E s := fun _ _ _ _ => h
theorem wpC_mono {t : Sem α} {Q Q' : α → Shared → Prop} {E' : Value → Shared → Prop} (h : wpC M A t Q E s)
    (hQ : ∀ a s, Q a s → Q' a s) (hE : ∀ e s, E e s → E' e s) : wpC M A t Q' E' s :=
  fun Γ p hΓ hc => Sem.wp_mono M Γ t (fun a _ s => hQ a s) (fun e _ s => hE e s) p s (h Γ p hΓ hc)
theorem wpC_bind {m : Sem α} {f : α → Sem β} {Q : β → Shared → Prop} (h : wpC M A m (fun a s' => wpC M A (f a) Q E s') E s) :
    wpC M A (m >>= f) Q E s := fun Γ p hΓ hc => by
  rw [Sem.wp_bind']
  exact Sem.wp_mono M Γ m (fun a p' s' h' => h' Γ p' hΓ hc) (fun _ _ _ h' => h') p s (h Γ p hΓ hc)
theorem wpC_bindA {m : Sem α} {f : α → Sem β} {Q : β → Shared → Prop} (h : wpAny M A m (fun a s' => wpC M A (f a) Q E s') E s) :
    wpC M A (m >>= f) Q E s := wpC_bind (wpC_of_any h)
theorem wpC_onRaise {m : Sem α} {k : Value → Sem Unit} {Q : α → Shared → Prop}
    (h : wpC M A m Q (fun e s' => wpC M A (k e) (fun _ s'' => E e s'') E s') s) : wpC M A (m.onRaise k) Q E s := fun Γ p hΓ hc => by
  rw [Sem.wp_onRaise]
  exact Sem.wp_mono M Γ m (fun _ _ _ h' => h') (fun e p' s' h' => h' Γ p' hΓ hc) p s (h Γ p hΓ hc)
theorem wpC_tryCatch {m : Sem α} {k : Value → Sem α} {Q : α → Shared → Prop} (h : wpC M A m Q (fun e s' => wpC M A (k e) Q E s') s) :
    wpC M A (tryCatch m k) Q E s := fun Γ p hΓ hc => by
  rw [Sem.wp_tryCatch']
  exact Sem.wp_mono M Γ m (fun _ _ _ h' => h') (fun e p' s' h' => h' Γ p' hΓ hc) p s (h Γ p hΓ hc)
theorem wpC_attempt {m : Sem α} {Q : Except Value α → Shared → Prop} (h : wpC M A m (fun a => Q (.ok a)) (fun e => Q (.error e)) s) :
    wpC M A m.attempt Q E s := fun Γ p hΓ hc => by rw [Sem.wp_attempt]; exact h Γ p hΓ hc
theorem wpC_holding {vs : List Value} {m : Sem α} {Q : α → Shared → Prop} (h : wpC M A m Q E s) : wpC M A (holding vs m) Q E s :=
  fun Γ p hΓ hc => by rw [Sem.wp_holding]; exact h Γ p hΓ hc
theorem wpC_standAt {pos : Pos} {Q : Unit → Shared → Prop} (h : Q () s) : wpC M A (standAt pos) Q E s := fun _ _ _ _ => h
theorem wpC_point {Q : Unit → Shared → Prop} (h : Q () s) : wpC M A point Q E s := fun _ _ _ _ => h
theorem wpC_rule {tag : String} {Q : Unit → Shared → Prop} (h : Q () s) : wpC M A (rule tag) Q E s := fun _ _ _ _ => h
theorem wpC_of_eq {t u : Sem α} {Q : α → Shared → Prop} (e : t = u) (h : wpC M A u Q E s) : wpC M A t Q E s := e ▸ h
theorem codeC_mono {c : Code} {R R' : Result → Shared → Prop} (h : codeC M A c R s) (hR : ∀ r s, R r s → R' r s) : codeC M A c R' s :=
  fun Γ p hc hΓ hb => wpCode_mono hR (h Γ p hc hΓ hb)
theorem wpC_run {c : Code} {h : Option Value} {Q : Flow → Shared → Prop}
    (hc : codeC M (A.mark h) c (fun r s' => match r with | .ok f => Q f s' | .error e => E e s') s) (hnb : h ≠ some byPass := by intro x; cases x) :
    wpC M A (run c h) Q E s :=
  fun Γ p hΓ hC => by rw [Sem.wp_run]; exact hc _ p rfl (hΓ.enter c h p hnb) (hC.enter c h p)
theorem wpC_runValue {c : Code} {Q : Value → Shared → Prop}
    (hc : codeC M A c (fun r s' => match r with | .ok (.ret v) => Q v s' | .ok _ => False | .error e => E e s') s) :
    wpC M A (runValue c) Q E s := fun Γ p hΓ hC => by rw [Sem.wp_runValue]; exact hc _ p rfl (hΓ.enter c none p (by intro x; cases x)) (hC.enter c none p)
theorem wpC_call {f : Value} {pos : List Value} {kw : List (Str × Value)} {Q : Value → Shared → Prop}
    (hc : codeC M A (.call f ⟨pos, kw⟩) (fun r s' => match r with | .ok (.ret v) => Q v s' | .ok _ => False | .error e => E e s') s) :
    wpC M A (call f pos kw) Q E s := wpC_runValue hc
theorem codeC_of_tree {c : Code} {R : Result → Shared → Prop}
    (h : wpC M (A.under c) (M.den c) (fun fin s' => match fin with | .done f => R (.ok f) s' | .again c' => c'.quiet = true ∧ codeC M A c' R s')
      (fun e s' => R (.error e) s') s) (hn : nodec c = true := by rfl) : codeC M A c R s := fun Γ p hc hΓ hb => by
  rw [wpCode_iff_wp, hc]
  refine Sem.wp_mono M Γ _ (fun fin p' s' h' => ?_) (fun _ _ _ h' => h') p s (h Γ p (hc ▸ hΓ.in) ⟨by rw [hc]; exact hn, hb⟩)
  cases fin with
  | done f => exact h'
  | again c' => exact ⟨h'.1, h'.2 (Γ.goto c') p' rfl (hΓ.goto c') hb⟩

/-- a bytearray is not lent out where nothing holds it -/
theorem wpC_exported {v : Value} {Q : Bool → Shared → Prop} (hg : A.guards = some []) (h : Q false s) : wpC M A (Builtin.Bytes.exported v) Q E s := fun Γ p hΓ hC => by
  have hgs := hΓ.2.2.2.1 [] hg
  have hl : guardsOf ((Γ.code, p) :: Γ.below) = [] := by rw [guardsOf_cons]; exact hgs
  have hc : CleanB ((Γ.code, p) :: Γ.below) := fun x hx => by
    rcases List.mem_cons.mp hx with rfl | hx
    · exact hC.1
    · exact hC.2 x hx
  refine (fun (b : Bool) (e : b = false) => (e ▸ h : Q b s)) (((Γ.code, p) :: Γ.below).any _) ?_
  generalize (Γ.code, p) :: Γ.below = l at hl hc
  rw [List.any_eq_false]
  intro x hx
  have hng : x.1.isGuard = false := by
    cases hgx : x.1.isGuard with
    | false => rfl
    | true =>
      have : x.1 ∈ guardsOf l := by
        unfold guardsOf
        exact List.mem_filter.mpr ⟨List.mem_map_of_mem hx, hgx⟩
      rw [hl] at this; cases this
  have hnd := hc x hx
  split
  · simp only [Code.isGuard] at hng; exact absurd hng (by decide)
  · simp only [Code.isGuard] at hng; exact absurd hng (by decide)
  · simp only [Code.isGuard] at hng; exact absurd hng (by decide)
  · simp only [Code.isGuard] at hng; exact absurd hng (by decide)
  · simp only [Code.isGuard] at hng; exact absurd hng (by decide)
  · simp only [nodec, Bool.not_eq_true'] at hnd
    rw [hnd, Bool.and_false]; decide
  · decide
end
end Mine
namespace Mine
open PySem PySem.W PyProof.Rows PySem.Calls
open Sem (wp)
namespace B
theorem mro : mroOf (.type "bytearray") = pure [.type "bytearray", .type "object"] := by rw [mroOf_type]; kernel_rfl
theorem lookup_new : typeLookup (.type "bytearray") "__new__" = pure (some (.builtin "bytearray.__new__")) := by rw [typeLookup_type, builtinLookup_eq_fast]; kernel_rfl
theorem slot_init : Slot "bytearray" "__init__" "bytearray.__init__" :=
  .of (owner := "bytearray") (n := "__init__") (by rw [typeLookup_type, builtinLookup_eq_fast]; kernel_rfl) (by decide +kernel) (by decide +kernel) (by decide +kernel)
    (by first | exact .inl (by decide +kernel) | exact .inr (by decide +kernel)) (by rw [isSubtype_type]; kernel_rfl)
theorem sub : isSubtype (.type "bytearray") (.type "bytearray") = pure true := by rw [isSubtype_type]; kernel_rfl
theorem called : TypeCalled "bytearray" "bytearray.__new__" "bytearray.__init__" :=
  ⟨by decide +kernel, by decide +kernel, ⟨_, _, mro⟩, madeBy_type mro lookup_new (by decide +kernel), by decide +kernel, sub, slot_init⟩
theorem typeCall (a : Value) : checkTypeCall "bytearray" ⟨[a], []⟩ = pure () := by kernel_rfl
theorem newCall (a : Value) : checkBuiltinCall "bytearray.__new__" ⟨[.type "bytearray", a], []⟩ = pure () := by kernel_rfl
theorem entry_new : entryFor table "bytearray.__new__" = some Builtin.«list.__new__» := entryFor_alias (id' := "list.__new__") (by rw [fastTable_eq_tree]; kernel_rfl) (by decide +kernel) (by decide +kernel) (by rw [fastTable_eq_tree]; kernel_rfl)
theorem entry_init : entryFor table "bytearray.__init__" = some Builtin.«bytearray.__init__» := entryFor_of_tree (by kernel_rfl)
theorem plain_new : plainId "bytearray.__new__" = true := by decide +kernel
theorem args_init (a b : Value) : argsOk "bytearray.__init__" ⟨[a, b], []⟩ := by
  first | exact trivial | (unfold argsOk; decide +kernel) | kernel_rfl | (intros; rfl)
set_option maxRecDepth 1000000 in
set_option maxHeartbeats 4000000 in
theorem owner_new : ("bytearray.__new__".splitOn ".__new__").headD "" = "bytearray" := by simp +decide [String.splitOn, String.splitOnAux]
end B
end Mine
namespace Mine
open PySem PySem.W PyProof.Rows PySem.Calls
open Sem (wp)

section
variable {prog : Program} {w : World} {A : Around} {E : Value → Shared → Prop} {s : Shared}

theorem code_ba_new (a : Value) {Q₁ : Value → Shared → Prop}
    (h : Q₁ (.ref s.heap.objs.size) { s with heap := s.heap.push { cls := .type "bytearray", data := .bytearray #[] } }) :
    codeAny (model prog w) A (.call (.builtin "bytearray.__new__") ⟨[.type "bytearray", a], []⟩) (wants Q₁ E) s := by
  refine codeAny_of_tree ?_
  show wpAny _ A.in1 (do checkBuiltinCall "bytearray.__new__" ⟨[.type "bytearray", a], []⟩; again (.builtin "bytearray.__new__" ⟨[.type "bytearray", a], []⟩)) _ _ s
  refine wpAny_bind (wpAny_of_eq (B.newCall a) (wpAny_pure ⟨plainId_quiet B.plain_new _, codeAny_builtin_stack B.entry_new rfl fun p st => ?_⟩))
  rw [Around.under_plainId B.plain_new _]
  have hsub := B.sub
  have hown := B.owner_new
  obtain ⟨hp, g, d, tk, os⟩ := s
  simp only [hown]
  wp_walk
  exact h

theorem codeC_call_builtin {id : String} {args : Args} {b : Builtin} {R : Result → Shared → Prop} (hq : plainId id = true) (hb : entryFor table id = some b) (hn : nodec (.builtin id args) = true)
    (h : wpAny (model prog w) A.in1 (checkBuiltinCall id args) (fun _ s₁ => wpC (model prog w) A.in1 (b args)
      (fun fin s' => match fin with | .done f => R (.ok f) s' | .again c' => c'.quiet = true ∧ codeC (model prog w) A c' R s') (fun e s' => R (.error e) s') s₁)
      (fun e s' => R (.error e) s') s) : codeC (model prog w) A (.call (.builtin id) args) R s := by
  refine codeC_of_tree ?_
  show wpC _ A.in1 (do checkBuiltinCall id args; again (.builtin id args)) _ _ s
  refine wpC_bind (wpC_of_any (wpAny_mono h (fun _ s₁ h₁ => wpC_pure (And.intro (plainId_quiet hq args) (codeC_of_tree ?_ hn))) fun _ _ h' => h'))
  show wpC _ _ (match entryFor table id with | some b => b args | none => unsupported ((withoutEnding? id "#data").getD id)) _ _ s₁
  rw [hb, Around.under_plainId hq args]; exact h₁
theorem codeC_builtin {id : String} {args : Args} {b : Builtin} {R : Result → Shared → Prop} (hb : entryFor table id = some b) (hn : nodec (.builtin id args) = true)
    (h : wpC (model prog w) (A.under (.builtin id args)) (b args)
      (fun fin s' => match fin with | .done f => R (.ok f) s' | .again c' => c'.quiet = true ∧ codeC (model prog w) A c' R s') (fun e s' => R (.error e) s') s) :
    codeC (model prog w) A (.builtin id args) R s := by
  refine codeC_of_tree ?_ hn
  show wpC _ _ (match entryFor table id with | some b => b args | none => unsupported ((withoutEnding? id "#data").getD id)) _ _ s
  rw [hb]; exact h

theorem callTypeC {T newId initId : String} {Bi : Builtin} {args : List Value} {Q Q₁ : Value → Shared → Prop} (ft : TypeCalled T newId initId)
    (hct : checkTypeCall T ⟨args, []⟩ = pure ()) (entryI : entryFor table initId = some Bi) (hnd : ∀ a, nodec (.builtin initId a) = true)
    (hnew : codeAny (model prog w) A.in1 (.call (.builtin newId) ⟨.type T :: args, []⟩) (wants Q₁ E) s)
    (hnext : ∀ obj s₁, Q₁ obj s₁ → s₁.TypeIs obj T ∧ argsOk initId ⟨obj :: args, []⟩ ∧
      wpC (model prog w) A.in1.in1 (Bi ⟨obj :: args, []⟩)
        (fun fin s' => match fin with | .done f => wants (fun r s₂ => r = .none ∧ Q obj s₂) E (.ok f) s' | .again c' => c'.quiet = true ∧ codeC (model prog w) A.in1 c' (wants (fun r s₂ => r = .none ∧ Q obj s₂) E) s')
        (fun e s' => wants (fun r s₂ => r = .none ∧ Q obj s₂) E (.error e) s') s₁) :
    wpC (model prog w) A (call (.type T) args) Q E s := by
  obtain ⟨c, tl, hmro⟩ := ft.mro
  have hmade := ft.made
  have hsub := ft.sub
  refine wpC_call (codeC_of_tree ?_)
  show wpC _ _ (callAny (.type T) _) _ _ _
  refine wpC_pure ⟨Code.quiet_builtin _ (by decide +kernel), codeC_builtin F.entry_type_call (show (!Builtin.Bytes.decodersThatHold.contains "type.__call__") = true by decide +kernel) ?_⟩
  rw [Around.under_plain (weight_type_call_type T args []) rfl]
  have h1 := ft.notType
  have h2 := ft.canCreate
  unfold Builtin.«type.__call__»
  dsimp only
  simp only [h1, Bool.false_eq_true, if_false]
  rw [h2]
  simp only [hct, hmro, hmade, Bool.false_eq_true, if_false, pure_bind, List.isEmpty_cons]
  refine wpC_bindA (wpAny_holding (wpAny_call (codeAny_mono hnew fun r s₁ hr => ?_)))
  cases r with
  | error e => exact hr
  | ok fl =>
    cases fl with
    | ret obj =>
      obtain ⟨hT, hok, hsi⟩ := hnext _ _ hr
      refine wpC_bindA (wpAny_isInstance hT hsub ?_)
      simp only [Bool.not_true, Bool.false_eq_true, if_false]
      refine wpC_bind (wpC_holding ?_)
      unfold callSpecial?
      refine wpC_bindA (wpAny_specialOf hT ft.init.lookup ?_)
      dsimp only
      refine wpC_holding ?_
      rw [ft.init.bind obj]
      simp only [pure_bind]
      refine wpC_bind (wpC_call (codeC_mono (codeC_call_builtin ft.init.plain entryI (hnd _) (ft.init.check _ _ _ _ _ _ _ _ hT hok hsi)) fun r₂ s₂ hr₂ => ?_))
      cases r₂ with
      | error e => exact hr₂
      | ok fl₂ =>
        cases fl₂ with
        | ret r =>
          obtain ⟨rfl, hq⟩ := hr₂
          exact wpC_pure (wpC_pure hq)
        | _ => exact hr₂.elim
    | _ => exact hr.elim
end
end Mine
namespace Mine
open PySem PySem.W PyProof.Rows PySem.Calls
open Sem (wp)
namespace B
theorem look_release : typeLookup (.type "bytearray") "__release_buffer__" = pure (some (.builtin "bytearray.__release_buffer__")) := by rw [typeLookup_type, builtinLookup_eq_fast]; kernel_rfl
theorem ends_release : ("bytearray.__release_buffer__".endsWith ("." ++ "__release_buffer__")) = true := by decide +kernel
theorem drop_release : "bytearray.__release_buffer__".dropRight ("__release_buffer__".length + 1) = "bytearray" := by decide +kernel
theorem bind1 (v : Value) : Builtin.Bytes.bindOptional "bytearray.__init__" "bytearray" ["source", "encoding", "errors"] [v] [] = pure [some v, none, none] := by kernel_rfl
theorem look_index_int : typeLookup (.type "int") "__index__" = pure (some (.builtin "int.__index__")) := by rw [typeLookup_type, builtinLookup_eq_fast]; kernel_rfl
end B
abbrev ba (b : Array UInt8) : Obj := { cls := .type "bytearray", data := .bytearray b }
section
variable {M : Model} {A : Around} {E : Value → Shared → Prop} {s : Shared}
theorem typeIs_ba {S : Addr} {b : Array UInt8} (h : s.heap.get? S = some (ba b)) : s.TypeIs (.ref S) "bytearray" := ⟨_, h, rfl⟩
theorem wpAny_ownRelease {S : Addr} {b : Array UInt8} {Q : Bool → Shared → Prop} (h : s.heap.get? S = some (ba b)) (hQ : Q false s) : wpAny M A (Builtin.Bytes.ownRelease (.ref S)) Q E s := by
  unfold Builtin.Bytes.ownRelease Builtin.Bytes.slotIsOwn
  refine wpAny_bind (wpAny_bind (wpAny_specialOf (typeIs_ba h) B.look_release ?_))
  dsimp only
  rw [B.ends_release, B.drop_release]
  exact wpAny_isInstance (typeIs_ba h) B.sub (wpAny_pure hQ)
theorem wpAny_payload {S : Addr} {b : Array UInt8} {Q : Array UInt8 → Shared → Prop} (h : s.heap.get? S = some (ba b)) (hQ : Q b s) : wpAny M A (Builtin.Bytes.payload (.ref S)) Q E s := by
  unfold Builtin.Bytes.payload Builtin.Bytes.payload?
  exact wpAny_bind (wpAny_bind (wpAny_load h (wpAny_pure (wpAny_pure hQ))))
theorem wpAny_exportsOf {S : Addr} {b : Array UInt8} {Q : Nat → Shared → Prop} (h : s.heap.get? S = some (ba b)) (hQ : Q 0 s) : wpAny M A (Builtin.Bytes.exportsOf (.ref S)) Q E s := by
  unfold Builtin.Bytes.exportsOf
  exact wpAny_bind (wpAny_load h (wpAny_pure hQ))
theorem past_ba {b : Array UInt8} (h : b.size ≤ sizeLine) : (Data.bytearray b).pastItsLine = none := by
  unfold Data.pastItsLine
  simp
  omega
theorem wpAny_write {S : Addr} {b : Array UInt8} {f : Array UInt8 → Array UInt8} {Q : Unit → Shared → Prop} (h : s.heap.get? S = some (ba b)) (hz : (f b).size ≤ sizeLine)
    (hQ : ∀ h', h'.get? S = some (ba (f b)) → Heap.SameBut S s.heap h' → Q () { s with heap := h' }) : wpAny M A (Builtin.Bytes.write (.ref S) f) Q E s := by
  unfold Builtin.Bytes.write updateBytearray
  refine wpAny_bind (wpAny_load h ?_)
  dsimp only
  refine wpAny_bind (wpAny_update h ?_)
  have hS : (s.heap.update S (Obj.mapBytearray f)).get? S = some (ba (f b)) := Heap.get?_update_self _ h rfl
  exact wpAny_lookBehind hS (past_ba hz) (hQ _ hS (Heap.SameBut.update ..))
end
end Mine
namespace Mine
open PySem PySem.W PyProof.Rows PySem.Calls
open Sem (wp)
section
variable {prog : Program} {w : World} {A : Around} {E : Value → Shared → Prop} {s : Shared}
theorem wpC_ba_init_int {S : Addr} {n : Int} {t : Tok} {Q : PySem.Fin → Shared → Prop} (hg : A.guards = some []) (h : s.heap.get? S = some (ba #[])) (h0 : 0 ≤ n) (hz : n.toNat ≤ sizeLine)
    (hQ : ∀ h', h'.get? S = some (ba (Array.replicate n.toNat 0)) → Heap.SameBut S s.heap h' → Q (.done (.ret .none)) { s with heap := h' }) :
    wpC (model prog w) A (Builtin.«bytearray.__init__» ⟨[.ref S, .int n t], []⟩) Q E s := by
  unfold Builtin.«bytearray.__init__»
  dsimp only
  refine wpC_bindA (wpAny_ownRelease h ?_)
  simp only [Bool.false_eq_true, if_false]
  rw [B.bind1]
  simp only [pure_bind]
  refine wpC_bindA (show wpAny _ _ (pure ()) _ _ _ from wpAny_pure ?_)
  refine wpC_bindA (show wpAny _ _ (pure ()) _ _ _ from wpAny_pure ?_)
  refine wpC_bind (show wpC _ _ (Builtin.Bytes.exported (Value.ref S) >>= _) _ _ _ from wpC_bind (wpC_exported hg ?_))
  refine wpC_bindA (wpAny_exportsOf h (wpC_pure ?_))
  rw [if_neg (by decide)]
  refine wpC_bindA (wpAny_write h (Nat.zero_le _) fun h₁ hS₁ hb₁ => ?_)
  refine wpC_bindA (show wpAny _ _ (pure none) _ _ _ from wpAny_pure ?_)
  rw [if_neg (by decide)]
  refine wpC_bindA (show wpAny _ _ (pure ()) _ _ _ from wpAny_pure ?_)
  refine wpC_bindA (wpAny_specialOf (typeIs_int _ _ _) B.look_index_int ?_)
  rw [if_pos (by rfl)]
  refine wpC_bindA (wpAny_attempt (show wpAny _ _ (pure n) _ _ _ from wpAny_pure ?_))
  dsimp only
  have hfit : Builtin.Bytes.fitsIndex n = true := by
    unfold Builtin.Bytes.fitsIndex
    rw [sizeLine_eq] at hz
    simp
    omega
  rw [if_neg (by rw [hfit]; decide), if_neg (by omega), if_neg (by rw [sizeLine_eq] at hz; simp; omega), if_neg (by unfold Builtin.Bytes.tooLong; simp; omega)]
  refine wpC_bindA (wpAny_rule ?_)
  by_cases hn : n > 0
  · rw [if_pos hn]
    refine wpC_bindA (wpAny_write hS₁ (by simpa using hz) fun h₂ hS₂ hb₂ => ?_)
    exact wpC_pure (hQ _ hS₂ (hb₁.trans hb₂))
  · rw [if_neg hn]
    have : n.toNat = 0 := by omega
    exact wpC_pure (hQ _ (by rw [this]; exact hS₁) hb₁)
end
end Mine
namespace Mine
open PySem PySem.W PyProof.Rows PySem.Calls
open Sem (wp)
theorem takeWhile_ints {p : Value → Bool} : ∀ {vs : List Value} {ns : List Int}, IntsAre vs ns → (∀ n ∈ ns, 0 ≤ n ∧ n < 256) →
    (∀ i t, p (.int i t) = (decide (0 ≤ i) && decide (i < 256))) → vs.takeWhile p = vs
  | _, _, .nil, _, _ => rfl
  | _, _, .cons n t h, hr, hp => by
    have h1 := hr n (List.mem_cons_self)
    rw [List.takeWhile_cons, hp]
    simp only [h1.1, h1.2, decide_true, Bool.and_self, if_true]
    rw [takeWhile_ints h (fun m hm => hr m (List.mem_cons_of_mem _ hm)) hp]
theorem filterMap_ints {f : Value → Option UInt8} : ∀ {vs : List Value} {ns : List Int}, IntsAre vs ns → (∀ i t, f (.int i t) = some i.toNat.toUInt8) → 
    (vs.filterMap f).toArray = byteArr ns := by
  intro vs ns h hf
  unfold byteArr
  congr 1
  induction h with
  | nil => rfl
  | cons n t _ ih => rw [List.filterMap_cons, hf]; simp [ih]
section
variable {prog : Program} {w : World} {A : Around} {E : Value → Shared → Prop} {s : Shared}
theorem wpC_ba_init_list {S l : Addr} {vs : List Value} {ns : List Int} {Q : PySem.Fin → Shared → Prop} (hg : A.guards = some []) (h : s.heap.get? S = some (ba #[])) (hl : s.heap.IsList l vs.toArray) (hi : IntsAre vs ns) (hr : ∀ n ∈ ns, 0 ≤ n ∧ n < 256) (hz : ns.length ≤ sizeLine)
    (hQ : ∀ h', h'.get? S = some (ba (byteArr ns)) → Heap.SameBut S s.heap h' → Q (.done (.ret .none)) { s with heap := h' }) :
    wpC (model prog w) A (Builtin.«bytearray.__init__» ⟨[.ref S, .ref l], []⟩) Q E s := by
  unfold Builtin.«bytearray.__init__»
  dsimp only
  refine wpC_bindA (wpAny_ownRelease h ?_)
  simp only [Bool.false_eq_true, if_false]
  rw [B.bind1]
  simp only [pure_bind]
  refine wpC_bindA (show wpAny _ _ (pure ()) _ _ _ from wpAny_pure ?_)
  refine wpC_bindA (show wpAny _ _ (pure ()) _ _ _ from wpAny_pure ?_)
  refine wpC_bind (show wpC _ _ (Builtin.Bytes.exported (Value.ref S) >>= _) _ _ _ from wpC_bind (wpC_exported hg ?_))
  refine wpC_bindA (wpAny_exportsOf h (wpC_pure ?_))
  rw [if_neg (by decide)]
  refine wpC_bindA (wpAny_write h (Nat.zero_le _) fun h₁ hS₁ hb₁ => ?_)
  obtain ⟨o, ho, hoc, cc, hod⟩ := hl
  have hlS : l ≠ S := fun e => by subst e; rw [h] at ho; cases ho; cases hod
  have ho₁ : h₁.get? l = some o := (hb₁.2 l hlS).trans ho
  have hl₁ : h₁.IsList l vs.toArray := ⟨o, ho₁, hoc, cc, hod⟩
  have hT₁ : ({ s with heap := h₁ } : Shared).TypeIs (.ref l) "list" := Heap.IsList.typeIs (s := { s with heap := h₁ }) hl₁
  refine wpC_bindA (show wpAny _ _ (load l >>= _) _ _ _ from wpAny_bind (wpAny_load ho₁ ?_))
  rw [hod]
  refine wpAny_pure ?_
  rw [if_neg (by decide)]
  refine wpC_bindA (show wpAny _ _ (pure ()) _ _ _ from wpAny_pure ?_)
  refine wpC_bindA (wpAny_specialOf hT₁ F.bm_no_index ?_)
  rw [if_neg (by decide)]
  refine wpC_bindA ?_
  unfold Builtin.Bytes.buffer?
  refine wpAny_bind (wpAny_specialOf hT₁ F.bm_no_buffer ?_)
  refine wpAny_bind (wpAny_specialOf hT₁ F.bm_no_buffer ?_)
  refine wpAny_pure ?_
  dsimp only
  refine wpC_bindA (wpAny_typeOf hT₁ ?_)
  rw [if_pos (by decide)]
  refine wpC_bindA (show wpAny _ _ (load l >>= _) _ _ _ from wpAny_bind (wpAny_load ho₁ ?_))
  rw [hod]
  refine wpAny_pure ?_
  dsimp only
  rw [takeWhile_ints hi hr (by intros; rfl), filterMap_ints hi (by intros; rfl)]
  rw [show vs.toArray[vs.length]? = none by simp]
  dsimp only
  refine wpC_bindA (wpAny_rule ?_)
  refine wpC_bindA (wpAny_write hS₁ (by rw [byteArr_size]; exact hz) fun h₂ hS₂ hb₂ => ?_)
  exact wpC_pure (hQ _ hS₂ (hb₁.trans hb₂))
end
end Mine
namespace Mine
open PySem PySem.W PyProof.Rows PySem.Calls
open Sem (wp)

/-! ## The logic over heaps: a clean context, tokens forgotten -/
def stt (s : Shared) (h : Heap) (t : Nat) : Shared := { s with heap := h, toks := t }
def wpH {α : Type} (M : Model) (s : Shared) (A : Around) (t : Sem α) (Q : α → Heap → Prop) (X : Value → Heap → Prop) (h : Heap) : Prop :=
  ∀ tk, wpC M A t (fun a s' => ∃ h' tk', s' = stt s h' tk' ∧ Q a h') (fun e s' => ∃ h' tk', s' = stt s h' tk' ∧ X e h') (stt s h tk)
def codeH (M : Model) (s : Shared) (A : Around) (c : Code) (R : Result → Heap → Prop) (h : Heap) : Prop :=
  ∀ tk, codeC M A c (fun r s' => ∃ h' tk', s' = stt s h' tk' ∧ R r h') (stt s h tk)
abbrev noX : Value → Heap → Prop := fun _ _ => False
abbrev Keep (h h' : Heap) : Prop := ∀ b o, h.get? b = some o → h'.get? b = some o
theorem Keep.rfl {h : Heap} : Keep h h := fun _ _ e => e
theorem Keep.trans {a b c : Heap} (x : Keep a b) (y : Keep b c) : Keep a c := fun b o e => y b o (x b o e)

section
variable {α β : Type} {M : Model} {s : Shared} {A : Around} {X : Value → Heap → Prop} {h : Heap}
theorem wpH_pure {a : α} {Q : α → Heap → Prop} (q : Q a h) : wpH M s A (pure a) Q X h := fun tk => wpC_pure ⟨h, tk, rfl, q⟩
theorem wpH_mono {t : Sem α} {Q Q' : α → Heap → Prop} {X' : Value → Heap → Prop} (x : wpH M s A t Q X h) (hQ : ∀ a h, Q a h → Q' a h) (hX : ∀ e h, X e h → X' e h) : wpH M s A t Q' X' h :=
  fun tk => wpC_mono (x tk) (fun a _ ⟨h', tk', e, q⟩ => ⟨h', tk', e, hQ a h' q⟩) fun e _ ⟨h', tk', e', q⟩ => ⟨h', tk', e', hX e h' q⟩
theorem wpH_post {t : Sem α} {Q Q' : α → Heap → Prop} (x : wpH M s A t Q X h) (hQ : ∀ a h, Q a h → Q' a h) : wpH M s A t Q' X h := wpH_mono x hQ fun _ _ q => q
theorem wpH_noX {t : Sem α} {Q : α → Heap → Prop} (x : wpH M s A t Q noX h) : wpH M s A t Q X h := wpH_mono x (fun _ _ q => q) fun _ _ q => q.elim
theorem wpH_bind {m : Sem α} {f : α → Sem β} {Q : β → Heap → Prop} (x : wpH M s A m (fun a h' => wpH M s A (f a) Q X h') X h) : wpH M s A (m >>= f) Q X h :=
  fun tk => wpC_bind (wpC_mono (x tk) (fun _ _ ⟨_, tk', e, q⟩ => e ▸ q tk') fun _ _ q => q)
theorem wpH_any {t : Sem α} {Q : α → Heap → Prop} (x : ∀ tk, wpAny M A t (fun a s' => ∃ h' tk', s' = stt s h' tk' ∧ Q a h') (fun e s' => ∃ h' tk', s' = stt s h' tk' ∧ X e h') (stt s h tk)) : wpH M s A t Q X h :=
  fun tk => wpC_of_any (x tk)
theorem wpH_of_eq {t u : Sem α} {Q : α → Heap → Prop} (e : t = u) (x : wpH M s A u Q X h) : wpH M s A t Q X h := e ▸ x
theorem wpH_holding {vs : List Value} {m : Sem α} {Q : α → Heap → Prop} (x : wpH M s A m Q X h) : wpH M s A (holding vs m) Q X h := fun tk => wpC_holding (x tk)
theorem wpH_standAt {pos : Pos} {Q : Unit → Heap → Prop} (q : Q () h) : wpH M s A (standAt pos) Q X h := fun tk => wpC_standAt ⟨h, tk, rfl, q⟩
theorem wpH_point {Q : Unit → Heap → Prop} (q : Q () h) : wpH M s A point Q X h := fun tk => wpC_point ⟨h, tk, rfl, q⟩
theorem wpH_rule {tag : String} {Q : Unit → Heap → Prop} (q : Q () h) : wpH M s A (rule tag) Q X h := fun tk => wpC_rule ⟨h, tk, rfl, q⟩
theorem wpH_onRaise {m : Sem α} {k : Value → Sem Unit} {Q : α → Heap → Prop} (x : wpH M s A m Q (fun e h' => wpH M s A (k e) (fun _ h'' => X e h'') X h') h) : wpH M s A (m.onRaise k) Q X h :=
  fun tk => wpC_onRaise (wpC_mono (x tk) (fun _ _ q => q) fun e _ ⟨_, tk', e', q⟩ => e' ▸ q tk')
theorem wpH_tryCatch {m : Sem α} {k : Value → Sem α} {Q : α → Heap → Prop} (x : wpH M s A m Q (fun e h' => wpH M s A (k e) Q X h') h) : wpH M s A (tryCatch m k) Q X h :=
  fun tk => wpC_tryCatch (wpC_mono (x tk) (fun _ _ q => q) fun e _ ⟨_, tk', e', q⟩ => e' ▸ q tk')
theorem wpH_attempt {m : Sem α} {Q : Except Value α → Heap → Prop} (x : wpH M s A m (fun a => Q (.ok a)) (fun e => Q (.error e)) h) : wpH M s A m.attempt Q X h := fun tk => wpC_attempt (x tk)
theorem codeH_mono {c : Code} {R R' : Result → Heap → Prop} (x : codeH M s A c R h) (hR : ∀ r h, R r h → R' r h) : codeH M s A c R' h :=
  fun tk => codeC_mono (x tk) fun r _ ⟨h', tk', e, q⟩ => ⟨h', tk', e, hR r h' q⟩
theorem wpH_run {c : Code} {hd : Option Value} {Q : Flow → Heap → Prop} (x : codeH M s (A.mark hd) c (fun r h' => match r with | .ok f => Q f h' | .error e => X e h') h) (hnb : hd ≠ some byPass := by intro x; cases x) :
    wpH M s A (run c hd) Q X h := fun tk => wpC_run (codeC_mono (x tk) fun r _ ⟨h', tk', e, q⟩ => by cases r <;> exact ⟨h', tk', e, q⟩) hnb
theorem wpH_runValue {c : Code} {Q : Value → Heap → Prop} (x : codeH M s A c (fun r h' => match r with | .ok (.ret v) => Q v h' | .ok _ => False | .error e => X e h') h) :
    wpH M s A (runValue c) Q X h := fun tk => wpC_runValue (codeC_mono (x tk) fun r _ ⟨h', tk', e, q⟩ => by
      cases r with
      | error e => exact ⟨h', tk', ‹_›, q⟩
      | ok f => cases f <;> first | exact ⟨h', tk', ‹_›, q⟩ | exact q.elim)
theorem wpH_call {f : Value} {pos : List Value} {kw : List (Str × Value)} {Q : Value → Heap → Prop}
    (x : codeH M s A (.call f ⟨pos, kw⟩) (fun r h' => match r with | .ok (.ret v) => Q v h' | .ok _ => False | .error e => X e h') h) : wpH M s A (call f pos kw) Q X h := wpH_runValue x
theorem codeH_of_tree {c : Code} {R : Result → Heap → Prop}
    (x : wpH M s (A.under c) (M.den c) (fun fin h' => match fin with | .done f => R (.ok f) h' | .again c' => c'.quiet = true ∧ codeH M s A c' R h') (fun e h' => R (.error e) h') h) (hn : nodec c = true := by rfl) : codeH M s A c R h :=
  fun tk => codeC_of_tree (wpC_mono (x tk) (fun fin _ ⟨h', tk', e, q⟩ => by
    cases fin with
    | done f => exact ⟨h', tk', e, q⟩
    | again c' => exact ⟨q.1, e ▸ q.2 tk'⟩) fun _ _ q => q) hn
theorem codeH_loop {c : Code} {R : Result → Heap → Prop} (hq : c.quiet = true) (I : Nat → Heap → Prop)
    (turn : ∀ n h, I n h → wpH M s (A.under c) (M.den c)
      (fun fin h' => match fin with
        | .done f => R (.ok f) h'
        | .again c' => (c' = c ∧ ∃ m, m < n ∧ I m h') ∨ (c'.quiet = true ∧ codeH M s A c' R h')) (fun e h' => R (.error e) h') h)
    (n : Nat) (x : I n h) (hn : nodec c = true := by rfl) : codeH M s A c R h := by
  induction n using Nat.strongRecOn generalizing h with
  | ind n ih =>
    refine codeH_of_tree (wpH_post (turn n h x) fun fin h' hf => ?_) hn
    cases fin with
    | done f => exact hf
    | again c' =>
      rcases hf with ⟨rfl, m, hm, hI⟩ | hf
      · exact ⟨hq, ih m hm hI⟩
      · exact hf
theorem wpH_operate {vs : List Value} {m : Sem Value} {Q : Value → Heap → Prop} (x : wpH M s A m Q X h) : wpH M s A (operate vs m) Q X h := fun tk Γ p hΓ hc => by
  rw [Sem.wp_operate]; exact x tk Γ p hΓ hc
theorem wpH_bindName {env : Env} {x : Str} {v : Value} {Q : Unit → Heap → Prop} (q : wpH M s A (storeName env x v) Q X h) : wpH M s A (bindName env x v) Q X h := fun tk Γ p hΓ hc => by
  rw [Sem.wp_bindName]; exact q tk Γ p hΓ hc
end

section
variable {M : Model} {s : Shared} {A : Around} {X : Value → Heap → Prop} {h : Heap} {env : Env}
theorem wpH_execs_nil {Q : Flow → Heap → Prop} (q : Q .next h) : wpH M s A (execs [] env) Q X h := wpH_pure q
theorem wpH_execs_cons {st rest} {Q : Flow → Heap → Prop} (x : wpH M s A (exec st env) (fun f h' => match f with | .next => wpH M s A (execs rest env) Q X h' | f => Q f h') X h) : wpH M s A (execs (st :: rest) env) Q X h := by
  rw [execs_cons]
  refine wpH_bind (wpH_post x fun f h' q => ?_)
  cases f <;> first | exact q | exact wpH_pure q
theorem wpH_BinOp {l op r pos} {Q : Value → Heap → Prop}
    (x : wpH M s A (eval l env) (fun a h₁ => wpH M s A (eval r env) (fun b h₂ => wpH M s A (binaryOp op a b) Q X h₂) X h₁) X h) : wpH M s A (eval (.BinOp l op r pos) env) Q X h := by
  rw [eval_BinOp]
  exact wpH_bind (wpH_post x fun a h₁ q => wpH_bind (wpH_holding (wpH_post q fun b h₂ q => wpH_bind (wpH_standAt (wpH_operate q)))))
theorem wpH_isTrue_Compare1 {l op r pos whole} {Q : Bool → Heap → Prop}
    (x : wpH M s A (eval l env) (fun a h₁ => wpH M s A (eval r env) (fun b h₂ => wpH M s A (compareOp op a b) (fun c h₃ => wpH M s A (truthy c) Q X h₃) X h₂) X h₁) X h)
    (hm : behindInMarks op r = false := by with_unfolding_all rfl) : wpH M s A (isTrue (.Compare l [op] [r] pos) env whole) Q X h := fun tk Γ p hΓ hc => by
  simp only [isTrue_Compare1, markedBehindIn_of_false hm, Sem.wp_bind', Sem.wp_holding, Sem.wp_cmd_standAt, Sem.wp_operate]
  exact Sem.wp_mono M Γ _ (fun a p₁ s₁ h₁ => by
    obtain ⟨h₁', tk₁, rfl, q₁⟩ := h₁
    exact Sem.wp_mono M Γ _ (fun b _ s₂ h₂ => by
      obtain ⟨h₂', tk₂, rfl, q₂⟩ := h₂
      exact Sem.wp_mono M Γ _ (fun c p₃ s₃ h₃ => by obtain ⟨h₃', tk₃, rfl, q₃⟩ := h₃; exact q₃ tk₃ Γ p₃ hΓ hc) (fun _ _ _ h' => h') _ _ (q₂ tk₂ Γ _ hΓ hc)) (fun _ _ _ h' => h') _ _ (q₁ tk₁ Γ p₁ hΓ hc))
    (fun _ _ _ h' => h') _ _ (x tk Γ p hΓ hc)
theorem wpH_Compare1 {l op r pos} {Q : Value → Heap → Prop}
    (x : wpH M s A (eval l env) (fun a h₁ => wpH M s A (eval r env) (fun b h₂ => wpH M s A (compareOp op a b) Q X h₂) X h₁) X h)
    (hm : behindInMarks op r = false := by with_unfolding_all rfl) : wpH M s A (eval (.Compare l [op] [r] pos) env) Q X h := fun tk Γ p hΓ hc => by
  simp only [eval_Compare1, markedBehindIn_of_false hm, Sem.wp_bind', Sem.wp_holding, Sem.wp_cmd_standAt, Sem.wp_operate]
  exact Sem.wp_mono M Γ _ (fun a p₁ s₁ h₁ => by
    obtain ⟨h₁', tk₁, rfl, q₁⟩ := h₁
    exact Sem.wp_mono M Γ _ (fun b _ s₂ h₂ => by
      obtain ⟨h₂', tk₂, rfl, q₂⟩ := h₂
      exact q₂ tk₂ Γ _ hΓ hc) (fun _ _ _ h' => h') _ _ (q₁ tk₁ Γ p₁ hΓ hc))
    (fun _ _ _ h' => h') _ _ (x tk Γ p hΓ hc)
theorem wpH_isTrue_value {e : Expr} {whole : Sem Value} {Q : Bool → Heap → Prop} (x : wpH M s A whole (fun v h₁ => wpH M s A (truthy v) Q X h₁) X h)
    (he : isTrue e env whole = (do let v ← whole; standAt e.pos; holding [v] (truthy v)) := by rfl) : wpH M s A (isTrue e env whole) Q X h := by
  rw [he]
  exact wpH_bind (wpH_post x fun v h₁ q => wpH_bind (wpH_standAt (wpH_holding q)))
theorem wpH_If {test body orelse pos} {Q : Flow → Heap → Prop}
    (x : wpH M s A (isTrue test env (eval test env)) (fun b h₂ => if b then wpH M s A (execs body env) Q X h₂ else wpH M s A (execs orelse env) Q X h₂) X h) : wpH M s A (exec (.If test body orelse pos) env) Q X h := by
  rw [exec_If]
  refine wpH_bind (wpH_standAt (wpH_bind (wpH_post x fun b h₂ q => ?_)))
  cases b <;> exact q
theorem wpH_Return {e pos} {Q : Flow → Heap → Prop} (x : wpH M s A (eval e env) (fun v => Q (.ret v)) X h) : wpH M s A (exec (.Return (some e) pos) env) Q X h := by
  rw [exec_Return_some]
  exact wpH_bind (wpH_standAt (wpH_bind (wpH_post x fun v h₁ q => wpH_pure q)))
theorem wpH_Assign_Name {x pos' value pos} {Q : Flow → Heap → Prop}
    (q : wpH M s A (eval value env) (fun v h₁ => wpH M s A (storeName env x v) (fun _ => Q .next) X h₁) X h)
    (hs : swapsWith value (some (.Name x pos')) pos.line env = pure false := by rfl) : wpH M s A (exec (.Assign [.Name x pos'] value pos) env) Q X h := fun tk Γ p hΓ hc => by
  simp only [exec_Assign_Name env x pos' value pos hs, Sem.wp_bind', Sem.wp_cmd_standAt, Sem.wp_bindName, Sem.wp_pure']
  exact Sem.wp_mono M Γ _ (fun v _ s₁ h₁ => by obtain ⟨h₁', tk₁, rfl, q₁⟩ := h₁; exact q₁ tk₁ Γ _ hΓ hc) (fun _ _ _ h' => h') _ _ (q tk Γ _ hΓ hc)
theorem wpH_Assign_Subscript {o i pos' value pos} {Q : Flow → Heap → Prop}
    (q : wpH M s A (eval value env) (fun v h₁ => wpH M s A (eval o env) (fun ov h₂ => wpH M s A (eval i env) (fun iv h₃ => wpH M s A (setItem ov iv v) (fun _ => Q .next) X h₃) X h₂) X h₁) X h)
    (hs : swapsWith value (some (.Subscript o i pos')) pos.line env = pure false := by rfl) : wpH M s A (exec (.Assign [.Subscript o i pos'] value pos) env) Q X h := fun tk Γ p hΓ hc => by
  simp only [exec_Assign_Subscript o i pos' value pos hs, assign_Subscript, Sem.wp_bind', Sem.wp_holding, Sem.wp_cmd_standAt, Sem.wp_release, Sem.wp_pure']
  exact Sem.wp_mono M Γ _ (fun v p₁ s₁ h₁ => by
    obtain ⟨h₁', tk₁, rfl, q₁⟩ := h₁
    exact Sem.wp_mono M Γ _ (fun ov p₂ s₂ h₂ => by
      obtain ⟨h₂', tk₂, rfl, q₂⟩ := h₂
      exact Sem.wp_mono M Γ _ (fun iv _ s₃ h₃ => by obtain ⟨h₃', tk₃, rfl, q₃⟩ := h₃; exact q₃ tk₃ Γ _ hΓ hc) (fun _ _ _ h' => h') _ _ (q₂ tk₂ Γ p₂ hΓ hc)) (fun _ _ _ h' => h') _ _ (q₁ tk₁ Γ p₁ hΓ hc))
    (fun _ _ _ h' => h') _ _ (q tk Γ _ hΓ hc)
end
end Mine
namespace Mine
open PySem PySem.W PyProof.Rows PySem.Calls
open Sem (wp)

/-! ## Calls by name -/
section
variable {M : Model} {s : Shared} {A : Around} {X : Value → Heap → Prop} {h : Heap} {env : Env}
theorem wpH_keep {α : Type} {vs : List Value} {m : Sem α} {Q : α → Heap → Prop} (x : wpH M s A m Q X h) : wpH M s A (m.keep vs) Q X h := fun tk Γ p hΓ hc => by rw [Sem.wp_keep]; exact x tk Γ p hΓ hc
theorem wpH_spliced_nil {Q : List Value → Heap → Prop} (q : Q [] h) : wpH M s A (spliced []) Q X h := wpH_pure q
theorem wpH_spliced_cons {x : Sem Value} {rest : List (Bool × Sem Value)} {Q : List Value → Heap → Prop}
    (q : wpH M s A x (fun v h₁ => wpH M s A (spliced rest) (fun vs h₂ => Q (v :: vs) h₂) X h₁) X h) : wpH M s A (spliced ((false, x) :: rest)) Q X h := by
  rw [spliced]
  refine wpH_bind (wpH_post q fun v h₁ q₁ => ?_)
  simp only [Bool.false_eq_true, if_false]
  exact wpH_bind (wpH_pure (wpH_bind (wpH_holding (wpH_post q₁ fun vs h₂ q₂ => wpH_pure q₂))))
theorem wpH_evalArgs {f : Value} {args : List (Bool × Sem Value)} {Q : Args → Heap → Prop} (hne : args.all (fun x => !x.1) = true)
    (q : wpH M s A (spliced args) (fun vs h' => Q ⟨vs, []⟩ h') X h) : wpH M s A (evalArgs f true args []) Q X h := by
  cases args with
  | nil =>
    unfold evalArgs
    show wpH M s A (spliced [] >>= _) Q X h
    refine wpH_bind (wpH_post q fun vs h' q' => ?_)
    refine wpH_bind (wpH_pure ?_)
    refine wpH_holding ?_
    exact wpH_bind (wpH_pure (wpH_bind (wpH_pure (wpH_pure q'))))
  | cons x rest =>
    obtain ⟨b, x⟩ := x
    obtain rfl : b = false := by simpa using (Bool.and_eq_true_iff.mp hne).1
    unfold evalArgs
    show wpH M s A (spliced ((false, x) :: rest) >>= _) Q X h
    refine wpH_bind (wpH_post q fun vs s' h' => ?_)
    refine wpH_holding ?_
    exact wpH_bind (wpH_pure (wpH_bind (wpH_pure (wpH_pure h'))))
theorem wpH_callWith_fn {pos : Pos} {a : Addr} {o : Obj} {fd : FuncData} {args : List (Bool × Sem Value)} {Q : Value → Heap → Prop} (hd : o.data = .func fd) (hlen : args.length ≤ 30) (hne : args.all (fun x => !x.1) = true)
    (q : wpH M s A (spliced args) (fun vs h₁ => h₁.get? a = some o ∧ wpH M s A (call (.ref a) vs) Q X h₁) X h) : wpH M s A (callWith pos (.ref a) [] args []) Q X h := by
  unfold callWith
  have hany : args.any (·.1) = false := by
    rw [List.any_eq_false]; intro x hx; have := List.all_eq_true.mp hne x hx; simpa using this
  refine wpH_bind (wpH_holding (wpH_evalArgs hne (wpH_post q fun vs h₁ q₁ => wpH_bind (wpH_standAt ?_))))
  simp only [hany, List.any_nil, Bool.or_false]
  refine wpH_bind (m := keeperOf (.ref a)) (wpH_bind (wpH_any fun tk => wpAny_load q₁.1 ⟨h₁, tk, rfl, ?_⟩))
  rw [hd]
  refine wpH_pure ?_
  dsimp only
  rw [if_neg (by simp; omega)]
  exact wpH_bind (wpH_keep (wpH_post q₁.2 fun r h₂ q₂ => wpH_bind (wpH_holding (wpH_point (wpH_pure q₂)))))
theorem wpH_callWith_val {pos : Pos} {f : Value} {args : List (Bool × Sem Value)} {Q : Value → Heap → Prop} (hf : keeperOf f = pure .machine) (hne : args.all (fun x => !x.1) = true)
    (q : wpH M s A (spliced args) (fun vs h₁ => wpH M s A (call f vs) Q X h₁) X h) : wpH M s A (callWith pos f [] args []) Q X h := by
  unfold callWith
  have hany : args.any (·.1) = false := by
    rw [List.any_eq_false]; intro x hx; have := List.all_eq_true.mp hne x hx; simpa using this
  refine wpH_bind (wpH_holding (wpH_evalArgs hne (wpH_post q fun vs h₁ q₁ => wpH_bind (wpH_standAt ?_))))
  simp only [hany, List.any_nil, Bool.or_false]
  rw [hf]
  refine wpH_bind (wpH_pure ?_)
  exact wpH_bind (wpH_post q₁ fun r h₂ q₂ => wpH_bind (wpH_holding (wpH_point (wpH_pure q₂))))
theorem wpH_Call {func : Expr} {args : List Expr} {pos : Pos} {Q : Value → Heap → Prop}
    (q : wpH M s A (eval func env) (fun f h₁ => wpH M s A (callWith pos f [] (backTo pos (starEach args env)) []) Q X h₁) X h)
    (he : eval (.Call func args [] pos) env = (do callWith pos (← eval func env) [] (backTo pos (starEach args env)) (backToKw pos (keywordEach [] env))) := by rfl) : wpH M s A (eval (.Call func args [] pos) env) Q X h := by
  rw [he]; exact wpH_bind q
end

/-! ## The frame: its locals, what must stand, the objects of its own -/
structure Fra (B : Addr → Option Obj) (L : Addr) (l : List (Str × Value)) (N : List (Addr × Obj)) (h : Heap) : Prop where
  ns : ∃ m, h.Ns L m ∧ ∀ x v, l.lookup x = some v → m x = some v
  keep : ∀ b o, B b = some o → h.get? b = some o
  news : ∀ p ∈ N, h.get? p.1 = some p.2
  apart : ∀ p ∈ N, B p.1 = none ∧ p.1 ≠ L
  own : B L = none
  nodup : (N.map (·.1)).Nodup
def setL (x : Str) (v : Value) : List (Str × Value) → List (Str × Value)
  | [] => [(x, v)]
  | (y, u) :: r => if y == x then (x, v) :: r else (y, u) :: setL x v r
theorem lookup_setL {x y : Str} {v : Value} : ∀ l : List (Str × Value), (setL x v l).lookup y = if y = x then some v else l.lookup y
  | [] => by
    by_cases hy : y = x
    · subst hy; simp [setL]
    · have : (y == x) = false := by simpa using hy
      simp [setL, List.lookup, this, hy]
  | (z, u) :: r => by
    have ih := lookup_setL (x := x) (y := y) (v := v) r
    unfold setL
    by_cases hz : z = x
    · subst hz
      simp only [beq_self_eq_true, if_true]
      by_cases hy : y = z
      · subst hy; simp
      · have : (y == z) = false := by simpa using hy
        simp [List.lookup, this, hy]
    · have hzx : (z == x) = false := by simpa using hz
      rw [hzx]
      simp only [Bool.false_eq_true, if_false, List.lookup]
      by_cases hy : y = z
      · subst hy; simp [hz]
      · have : (y == z) = false := by simpa using hy
        simp only [this]; exact ih
def Has (l : List (Str × Value)) : List (Str × Value) → Prop
  | [] => True
  | (x, v) :: r => l.lookup x = some v ∧ Has l r
theorem Has.lookup {l : List (Str × Value)} : ∀ {l' : List (Str × Value)}, Has l l' → ∀ x v, l'.lookup x = some v → l.lookup x = some v
  | [], _, _, _, e => by cases e
  | (y, u) :: r, hh, x, v, e => by
    rw [List.lookup_cons] at e
    by_cases hy : x = y
    · subst hy
      simp only [beq_self_eq_true] at e
      cases e; exact hh.1
    · have : (x == y) = false := by simpa using hy
      rw [this] at e
      exact Has.lookup hh.2 x v e
def updN (a : Addr) (o : Obj) : List (Addr × Obj) → List (Addr × Obj)
  | [] => []
  | (b, p) :: r => if b = a then (a, o) :: r else (b, p) :: updN a o r
theorem updN_fst (a : Addr) (o : Obj) : ∀ N : List (Addr × Obj), (updN a o N).map (·.1) = N.map (·.1)
  | [] => rfl
  | (b, p) :: r => by
    unfold updN
    split
    · rename_i e; subst e; rfl
    · simp [updN_fst a o r]
theorem mem_updN {a : Addr} {o : Obj} {p : Addr × Obj} : ∀ {N : List (Addr × Obj)}, (N.map (·.1)).Nodup → p ∈ updN a o N → (p = (a, o) ∧ a ∈ N.map (·.1)) ∨ (p ∈ N ∧ p.1 ≠ a)
  | [], _, hp => by cases hp
  | (b, q) :: r, nd, hp => by
    unfold updN at hp
    rw [List.map_cons, List.nodup_cons] at nd
    split at hp
    · rename_i e
      subst e
      rcases List.mem_cons.mp hp with rfl | hp
      · exact .inl ⟨rfl, List.mem_cons_self ..⟩
      · exact .inr ⟨List.mem_cons_of_mem _ hp, fun e => nd.1 (List.mem_map.mpr ⟨p, hp, e⟩)⟩
    · rename_i e
      rcases List.mem_cons.mp hp with rfl | hp
      · exact .inr ⟨List.mem_cons_self .., e⟩
      · rcases mem_updN nd.2 hp with ⟨rfl, hm⟩ | ⟨hm, hn⟩
        · exact .inl ⟨rfl, List.mem_cons_of_mem _ hm⟩
        · exact .inr ⟨List.mem_cons_of_mem _ hm, hn⟩
section
variable {B : Addr → Option Obj} {L : Addr} {l l' : List (Str × Value)} {N N' : List (Addr × Obj)} {h h' : Heap}
theorem Fra.keeps (F : Fra B L l N h) (k : Keep h h') : Fra B L l N h' :=
  ⟨let ⟨m, a, b⟩ := F.ns; ⟨m, a.keeps k, b⟩, fun b o e => k b o (F.keep b o e), fun p hp => k _ _ (F.news p hp), F.apart, F.own, F.nodup⟩
theorem Fra.weak (F : Fra B L l N h) (hl : Has l l') : Fra B L l' N h := ⟨let ⟨m, a, b⟩ := F.ns; ⟨m, a, fun x v e => b x v (hl.lookup x v e)⟩, F.keep, F.news, F.apart, F.own, F.nodup⟩
theorem Fra.sub (F : Fra B L l N h) (hs : N'.Sublist N) : Fra B L l N' h := ⟨F.ns, F.keep, fun p hp => F.news p (hs.subset hp), fun p hp => F.apart p (hs.subset hp), F.own, (hs.map (·.1)).nodup F.nodup⟩
theorem Fra.tail {p : Addr × Obj} (F : Fra B L l (p :: N) h) : Fra B L l N h := F.sub (List.sublist_cons_self ..)
theorem Fra.less {B' : Addr → Option Obj} (F : Fra B L l N h) (hb : ∀ b o, B' b = some o → B b = some o) : Fra B' L l N h :=
  have none : ∀ b, B b = none → B' b = none := fun b e => by
    cases hq : B' b with
    | none => rfl
    | some o => rw [hb b o hq] at e; cases e
  ⟨F.ns, fun b o e => F.keep b o (hb b o e), F.news, fun p hp => ⟨none _ (F.apart p hp).1, (F.apart p hp).2⟩, none _ F.own, F.nodup⟩
theorem Fra.stored {x : Str} {v : Value} (F : Fra B L l N h) {m : Str → Option Value} (hm : ∀ x v, l.lookup x = some v → m x = some v) (hn : h'.Ns L (fun y => if y = x then some v else m y)) (hs : Heap.SameBut L h h') : Fra B L (setL x v l) N h' := by
  refine ⟨⟨_, hn, fun y u e => ?_⟩, fun b o e => ?_, fun p hp => (hs.2 _ (F.apart p hp).2).trans (F.news p hp), F.apart, F.own, F.nodup⟩
  · rw [lookup_setL] at e
    by_cases hy : y = x
    · simp only [hy, if_true] at e ⊢; exact e
    · simp only [hy, if_false] at e ⊢; exact hm _ _ e
  · have : b ≠ L := fun q => by rw [q, F.own] at e; cases e
    exact (hs.2 b this).trans (F.keep b o e)
theorem Fra.fresh (F : Fra B L l N h) (k : Keep h h') {a : Addr} {o : Obj} (hn : h.get? a = none) (ho : h'.get? a = some o) : Fra B L l ((a, o) :: N) h' := by
  have F' := F.keeps k
  refine ⟨F'.ns, F'.keep, fun p hp => ?_, fun p hp => ?_, F'.own, ?_⟩
  · rcases List.mem_cons.mp hp with rfl | hp
    · exact ho
    · exact F'.news p hp
  · rcases List.mem_cons.mp hp with rfl | hp
    · refine ⟨?_, ?_⟩
      · cases hq : B a with
        | none => rfl
        | some o' => rw [F.keep a o' hq] at hn; cases hn
      · rintro rfl
        obtain ⟨m, ⟨o, es, ep, e, _⟩, _⟩ := F.ns
        rw [e] at hn; cases hn
    · exact F'.apart p hp
  · rw [List.map_cons, List.nodup_cons]
    refine ⟨fun hm => ?_, F'.nodup⟩
    obtain ⟨p, hp, e⟩ := List.mem_map.mp hm
    have e' : p.1 = a := e
    rw [← e', F.news p hp] at hn; cases hn
theorem Fra.upd {a : Addr} {o : Obj} (F : Fra B L l N h) (hs : Heap.SameBut a h h') (ho : h'.get? a = some o) (ha : a ∈ N.map (·.1)) : Fra B L l (updN a o N) h' := by
  obtain ⟨p, hp, rfl⟩ := List.mem_map.mp ha
  obtain ⟨hB, hL⟩ := F.apart p hp
  refine ⟨let ⟨m, x, y⟩ := F.ns; ⟨m, x.sameBut hs (Ne.symm hL), y⟩, fun b q e => ?_, fun q hq => ?_, fun q hq => ?_, F.own, by rw [updN_fst]; exact F.nodup⟩
  · have : b ≠ p.1 := fun z => by rw [z, hB] at e; cases e
    exact (hs.2 b this).trans (F.keep b q e)
  · rcases mem_updN F.nodup hq with ⟨rfl, _⟩ | ⟨hm, hn⟩
    · exact ho
    · exact (hs.2 _ hn).trans (F.news q hm)
  · rcases mem_updN F.nodup hq with ⟨rfl, _⟩ | ⟨hm, hn⟩
    · exact ⟨hB, hL⟩
    · exact F.apart q hm
/-- an object of the ledger becomes one that must stand -/
theorem Fra.freeze {a : Addr} {o : Obj} (F : Fra B L l ((a, o) :: N) h) : Fra (fun b => if b = a then some o else B b) L l N h := by
  have nd := F.nodup
  rw [List.map_cons, List.nodup_cons] at nd
  have hA := F.apart _ (List.mem_cons_self ..)
  refine ⟨F.ns, fun b q e => ?_, fun p hp => F.news p (List.mem_cons_of_mem _ hp), fun p hp => ⟨?_, (F.apart p (List.mem_cons_of_mem _ hp)).2⟩, ?_, nd.2⟩
  · by_cases hb : b = a
    · subst hb; simp only [if_true] at e; cases e; exact F.news _ (List.mem_cons_self ..)
    · simp only [hb, if_false] at e; exact F.keep b q e
  · have : p.1 ≠ a := fun e => nd.1 (List.mem_map.mpr ⟨p, hp, e⟩)
    simp only [this, if_false]; exact (F.apart p (List.mem_cons_of_mem _ hp)).1
  · have : L ≠ a := fun e => hA.2 e.symm
    simp only [this, if_false]; exact F.own
theorem Fra.melt {a : Addr} {o : Obj} (F : Fra (fun b => if b = a then some o else B b) L l N h) (ha : B a = none) : Fra B L l ((a, o) :: N) h := by
  have ne : ∀ p ∈ N, p.1 ≠ a := fun p hp e => by have := (F.apart p hp).1; simp only [e, if_true] at this; cases this
  have hL : L ≠ a := fun e => by have := F.own; simp only [e, if_true] at this; cases this
  refine ⟨F.ns, fun b q e => F.keep b q ?_, fun p hp => ?_, fun p hp => ?_, ?_, ?_⟩
  · have : b ≠ a := fun z => by rw [z, ha] at e; cases e
    simp only [this, if_false]; exact e
  · rcases List.mem_cons.mp hp with rfl | hp
    · exact F.keep a o (by simp)
    · exact F.news p hp
  · rcases List.mem_cons.mp hp with rfl | hp
    · exact ⟨ha, Ne.symm hL⟩
    · have := F.apart p hp; simp only [ne p hp, if_false] at this; exact this
  · have := F.own; simp only [hL, if_false] at this; exact this
  · rw [List.map_cons, List.nodup_cons]
    exact ⟨fun hm => by obtain ⟨p, hp, e⟩ := List.mem_map.mp hm; exact ne p hp e, F.nodup⟩
end
end Mine
namespace Mine
open PySem PySem.W PyProof.Rows PySem.Calls
open Sem (wp)
namespace B
theorem slot_getitem : Slot "bytearray" "__getitem__" "bytearray.__getitem__" :=
  .of (owner := "bytearray") (n := "__getitem__") (by rw [typeLookup_type, builtinLookup_eq_fast]; kernel_rfl) (by decide +kernel) (by decide +kernel) (by decide +kernel)
    (by first | exact .inl (by decide +kernel) | exact .inr (by decide +kernel)) (by rw [isSubtype_type]; kernel_rfl)
theorem slot_setitem : Slot "bytearray" "__setitem__" "bytearray.__setitem__" :=
  .of (owner := "bytearray") (n := "__setitem__") (by rw [typeLookup_type, builtinLookup_eq_fast]; kernel_rfl) (by decide +kernel) (by decide +kernel) (by decide +kernel)
    (by first | exact .inl (by decide +kernel) | exact .inr (by decide +kernel)) (by rw [isSubtype_type]; kernel_rfl)
theorem slot_len : Slot "bytearray" "__len__" "bytearray.__len__" :=
  .of (owner := "bytearray") (n := "__len__") (by rw [typeLookup_type, builtinLookup_eq_fast]; kernel_rfl) (by decide +kernel) (by decide +kernel) (by decide +kernel)
    (by first | exact .inl (by decide +kernel) | exact .inr (by decide +kernel)) (by rw [isSubtype_type]; kernel_rfl)
theorem entry_getitem : entryFor table "bytearray.__getitem__" = some Builtin.«bytearray.__getitem__» := entryFor_of_tree (by kernel_rfl)
theorem entry_setitem : entryFor table "bytearray.__setitem__" = some Builtin.«bytearray.__setitem__» := entryFor_of_tree (by kernel_rfl)
theorem entry_len : entryFor table "bytearray.__len__" = some Builtin.«bytearray.__len__» := entryFor_of_tree (by kernel_rfl)
theorem args_getitem (a b : Value) : argsOk "bytearray.__getitem__" ⟨[a, b], []⟩ := by
  first | exact trivial | (unfold argsOk; decide +kernel) | kernel_rfl | (intros; rfl)
theorem args_setitem (a b c : Value) : argsOk "bytearray.__setitem__" ⟨[a, b, c], []⟩ := by
  first | exact trivial | (unfold argsOk; decide +kernel) | kernel_rfl | (intros; rfl)
theorem args_len (a : Value) : argsOk "bytearray.__len__" ⟨[a], []⟩ := by
  first | exact trivial | (unfold argsOk; decide +kernel) | kernel_rfl | (intros; rfl)
end B
section
variable {prog : Program} {w : World} {A : Around} {E : Value → Shared → Prop} {s : Shared}
theorem fitsIndex_small {k : Int} (h0 : 0 ≤ k) (h1 : k < 2 ^ 63) : Builtin.Bytes.fitsIndex k = true := by
  unfold Builtin.Bytes.fitsIndex; simp; omega
theorem wpAny_subscript_int {k : Int} {t : Tok} {Q : Option Int → Shared → Prop} (h0 : 0 ≤ k) (h1 : k < 2 ^ 63) (h : Q (some k) s) : wpAny (model prog w) A (Builtin.Bytes.subscript? (.int k t)) Q E s := by
  unfold Builtin.Bytes.subscript?
  refine wpAny_bind (wpAny_specialOf (typeIs_int s k t) B.look_index_int ?_)
  rw [if_neg (by decide)]
  refine wpAny_bind (show wpAny _ _ (pure k) _ _ _ from wpAny_pure ?_)
  rw [if_neg (by rw [fitsIndex_small h0 h1]; decide)]
  exact wpAny_pure h
theorem seqIndex_of {k : Int} {n : Nat} (h0 : 0 ≤ k) (h1 : k < n) : seqIndex? k n = some k.toNat := by
  unfold seqIndex?
  simp only [show ¬ k < 0 by omega, if_false]
  rw [if_pos (by simp; omega)]
theorem getItem_ba {S : Addr} {b : Array UInt8} {k : Int} {t : Tok} {Q : Value → Shared → Prop} (hS : s.heap.get? S = some (ba b)) (h0 : 0 ≤ k) (h1 : k < b.size) (hb : b.size ≤ sizeLine)
    (h : Q (.int (b.getD k.toNat 0).toNat s.toks) { s with toks := s.toks + 1 }) : wpAny (model prog w) A (getItem (.ref S) (.int k t)) Q E s := by
  refine wpAny_getItem_slot (typeIs_ba hS) (by decide) B.slot_getitem (wpAny_call_entry B.slot_getitem (typeIs_ba hS) B.entry_getitem ?_ (B.args_getitem _ _))
  unfold Builtin.«bytearray.__getitem__»
  refine wpAny_bind (show wpAny _ _ (pure _) _ _ _ from wpAny_pure ?_)
  dsimp only
  rw [sizeLine_eq] at hb
  refine wpAny_bind (wpAny_subscript_int h0 (by omega) ?_)
  refine wpAny_bind (wpAny_payload hS ?_)
  rw [seqIndex_of h0 h1]
  have e : b[k.toNat]? = some (b.getD k.toNat 0) := by
    have : k.toNat < b.size := by omega
    simp [Array.getD, this]
  dsimp only [Option.bind]
  rw [e]
  exact wpAny_bind (wpAny_mkInt (wpAny_pure ⟨_, rfl, h⟩))
theorem setItem_ba {S : Addr} {b : Array UInt8} {k x : Int} {t u : Tok} {Q : Unit → Shared → Prop} (hS : s.heap.get? S = some (ba b)) (h0 : 0 ≤ k) (h1 : k < b.size) (hb : b.size ≤ sizeLine) (hx0 : 0 ≤ x) (hx1 : x < 256)
    (h : ∀ h', h'.get? S = some (ba (b.setIfInBounds k.toNat x.toNat.toUInt8)) → Heap.SameBut S s.heap h' → Q () { s with heap := h' }) : wpAny (model prog w) A (setItem (.ref S) (.int k t) (.int x u)) Q E s := by
  unfold setItem
  refine wpAny_holding ?_
  refine wpAny_bind (wpAny_sequenceKey (typeIs_ba hS) (by decide) ?_)
  refine wpAny_bind (wpAny_callSpecial?_slot (name := Str.ofString "__setitem__") (typeIs_ba hS) B.slot_setitem (wpAny_call_entry B.slot_setitem (typeIs_ba hS) B.entry_setitem ?_ (B.args_setitem _ _ _)))
  unfold Builtin.«bytearray.__setitem__»
  dsimp only
  have hb' := hb
  rw [sizeLine_eq] at hb
  rw [if_neg (by decide)]
  refine wpAny_bind (wpAny_subscript_int h0 (by omega) ?_)
  refine wpAny_bind (m := Builtin.Bytes.byteValue (.int x u)) ?_
  unfold Builtin.Bytes.byteValue
  refine wpAny_bind (show wpAny _ _ (pure x) _ _ _ from wpAny_pure ?_)
  rw [if_neg (by simp; omega)]
  refine wpAny_pure ?_
  refine wpAny_bind (wpAny_payload hS ?_)
  rw [seqIndex_of h0 h1]
  refine wpAny_bind (wpAny_write hS (by simpa using hb') fun h₁ hS₁ hb₁ => ?_)
  refine wpAny_pure ⟨_, rfl, ?_⟩
  exact wpAny_pure (h _ hS₁ hb₁)
theorem len_ba {S : Addr} {b : Array UInt8} {Q : Value → Shared → Prop} (hS : s.heap.get? S = some (ba b)) (hb : b.size ≤ sizeLine)
    (h : ∀ t tk, Q (.int b.size t) { s with toks := tk }) : wpAny (model prog w) A (call (.builtin "len") [.ref S]) Q E s := by
  rw [sizeLine_eq] at hb
  refine call_function_entry kind_len plain_len entry_len (args_len1 _) ?_
  unfold Builtin.«len»
  refine wpAny_bind (m := oneArg "len" _) (wpAny_pure ?_)
  refine wpAny_bind (m := callSpecial? (.ref S) (Str.ofString "__len__")) (wpAny_callSpecial?_slot (name := Str.ofString "__len__") (typeIs_ba hS) B.slot_len
    (wpAny_call_entry B.slot_len (typeIs_ba hS) B.entry_len ?_ (B.args_len _)))
  unfold Builtin.«bytearray.__len__»
  refine wpAny_bind (show wpAny _ _ (pure _) _ _ _ from wpAny_pure ?_)
  dsimp only
  refine wpAny_bind (wpAny_payload hS ?_)
  refine wpAny_bind (wpAny_mkInt (wpAny_pure ⟨_, rfl, ?_⟩))
  refine wpAny_bind (wpAny_holding (wpAny_pure ?_))
  refine wpAny_bind (wpAny_letGo ?_)
  show wpAny _ _ (if ((b.size : Nat) : Int) < 0 then _ else _) _ _ _
  rw [if_neg (by omega)]
  show wpAny _ _ (if ((b.size : Nat) : Int) ≥ 2 ^ 63 then _ else _) _ _ _
  rw [if_neg (by omega)]
  exact wpAny_bind (wpAny_mkInt (wpAny_pure ⟨_, rfl, h _ _⟩))
end
end Mine
namespace Mine
open PySem PySem.W PyProof.Rows PySem.Calls
open Sem (wp)

/-! ## Expressions that leave every object as it stands -/
def Ev (M : Model) (s : Shared) (A : Around) (env : Env) (h : Heap) (e : Expr) (V : Value → Heap → Prop) : Prop :=
  ∀ h₁, Keep h h₁ → ∀ (Q : Value → Heap → Prop) (X : Value → Heap → Prop), (∀ v h₂, Keep h₁ h₂ → (∀ h₃, Keep h₂ h₃ → V v h₃) → Q v h₂) → wpH M s A (eval e env) Q X h₁
def EvT (M : Model) (s : Shared) (A : Around) (env : Env) (h : Heap) (e : Expr) (b : Bool) : Prop :=
  ∀ h₁, Keep h h₁ → ∀ (Q : Bool → Heap → Prop) (X : Value → Heap → Prop), (∀ h₂, Keep h₁ h₂ → Q b h₂) → wpH M s A (isTrue e env (eval e env)) Q X h₁
def EvL (M : Model) (s : Shared) (A : Around) (env : Env) (h : Heap) (es : List Expr) (V : List Value → Heap → Prop) : Prop :=
  ∀ pos h₁, Keep h h₁ → ∀ (Q : List Value → Heap → Prop) (X : Value → Heap → Prop), (∀ vs h₂, Keep h₁ h₂ → (∀ h₃, Keep h₂ h₃ → V vs h₃) → Q vs h₂) → wpH M s A (spliced (backTo pos (starEach es env))) Q X h₁
abbrev Is (v : Value) : Value → Heap → Prop := fun u _ => u = v
abbrev IsI (i : Int) : Value → Heap → Prop := fun u _ => ∃ t, u = .int i t
abbrev IsB (b : Array UInt8) : Value → Heap → Prop := fun u h => ∃ a, u = .ref a ∧ h.get? a = some (ba b)
abbrev IsIL (ns : List Int) : Value → Heap → Prop := fun u h => ∃ a vs, u = .ref a ∧ h.IsList a vs.toArray ∧ IntsAre vs ns
abbrev NewB (h₀ : Heap) (b : Array UInt8) : Value → Heap → Prop := fun u h => ∃ a, u = .ref a ∧ h₀.get? a = none ∧ h.get? a = some (ba b)
abbrev oneV (V : Value → Heap → Prop) (W : List Value → Heap → Prop) : List Value → Heap → Prop := fun vs h => ∃ v r, vs = v :: r ∧ V v h ∧ W r h
abbrev nilV : List Value → Heap → Prop := fun vs _ => vs = []

section
variable {prog : Program} {w : World} {s : Shared} {A : Around} {env : Env} {h : Heap} {e l r : Expr} {V V' : Value → Heap → Prop} {pos : Pos}
theorem Ev.wp (x : Ev (model prog w) s A env h e V) {Q : Value → Heap → Prop} {X : Value → Heap → Prop} (q : ∀ v h₂, Keep h h₂ → (∀ h₃, Keep h₂ h₃ → V v h₃) → Q v h₂) : wpH (model prog w) s A (eval e env) Q X h := x h Keep.rfl Q X q
theorem Ev.mono (x : Ev (model prog w) s A env h e V) (hV : ∀ v h', Keep h h' → V v h' → V' v h') : Ev (model prog w) s A env h e V' :=
  fun h₁ k Q X q => x h₁ k Q X fun v h₂ k₂ y => q v h₂ k₂ fun h₃ k₃ => hV v h₃ ((k.trans k₂).trans k₃) (y h₃ k₃)
theorem Ev.ext {h' : Heap} (x : Ev (model prog w) s A env h e V) (k : Keep h h') : Ev (model prog w) s A env h' e V := fun h₁ k₁ => x h₁ (k.trans k₁)
theorem Ev.int {i : Int} {k : Nat} : Ev (model prog w) s A env h (.Constant (.int i) k pos) (IsI i) :=
  fun h₁ _ Q X q => wpH_any fun tk => wpAny_Constant_int ⟨h₁, tk + 1, rfl, q _ _ Keep.rfl fun _ _ => ⟨_, rfl⟩⟩
theorem Ev.toI {i : Int} {t : Tok} (x : Ev (model prog w) s A env h e (Is (.int i t))) : Ev (model prog w) s A env h e (IsI i) := x.mono fun _ _ _ q => ⟨t, q⟩
theorem EvL.nil : EvL (model prog w) s A env h [] nilV := fun _ _ _ _ _ q => wpH_spliced_nil (q _ _ Keep.rfl fun _ _ => rfl)
theorem EvL.cons {es : List Expr} {W : List Value → Heap → Prop} (x : Ev (model prog w) s A env h e V) (y : EvL (model prog w) s A env h es W)
    (he : starEach (e :: es) env = (false, eval e env) :: starEach es env := by rfl) : EvL (model prog w) s A env h (e :: es) (oneV V W) := fun pos h₁ k Q X q => by
  rw [he]
  refine wpH_spliced_cons (x h₁ k _ _ fun v h₂ k₂ hv => y pos h₂ (k.trans k₂) _ _ fun vs h₃ k₃ hvs => q _ _ (k₂.trans k₃) fun h₄ k₄ => ⟨v, vs, rfl, hv _ (k₃.trans k₄), hvs _ k₄⟩)
/-- int operators -/
theorem Ev.bin {op : Operator} {a b c : Int} (x : Ev (model prog w) s A env h l (IsI a)) (y : Ev (model prog w) s A env h r (IsI b))
    (z : ∀ (s' : Shared) t u (Q : Value → Shared → Prop) (E : Value → Shared → Prop), (∀ t' tk, Q (.int c t') { s' with toks := tk }) → wpAny (model prog w) A (binaryOp op (.int a t) (.int b u)) Q E s') : Ev (model prog w) s A env h (.BinOp l op r pos) (IsI c) :=
  fun h₁ k Q X q => wpH_BinOp (x h₁ k _ _ fun v h₂ k₂ hv => y h₂ (k.trans k₂) _ _ fun u h₃ k₃ hu => by
    obtain ⟨t, rfl⟩ := hv _ Keep.rfl
    obtain ⟨t', rfl⟩ := hu _ Keep.rfl
    exact wpH_any fun tk => z _ _ _ _ _ fun t'' tk' => ⟨h₃, tk', rfl, q _ _ (k₂.trans k₃) fun _ _ => ⟨_, rfl⟩⟩)
theorem Ev.add {a b : Int} (x : Ev (model prog w) s A env h l (IsI a)) (y : Ev (model prog w) s A env h r (IsI b)) : Ev (model prog w) s A env h (.BinOp l .Add r pos) (IsI (a + b)) := x.bin y fun _ _ _ _ _ q => add_int (q _ _)
theorem Ev.sub {a b : Int} (x : Ev (model prog w) s A env h l (IsI a)) (y : Ev (model prog w) s A env h r (IsI b)) : Ev (model prog w) s A env h (.BinOp l .Sub r pos) (IsI (a - b)) := x.bin y fun _ _ _ _ _ q => sub_int (q _ _)
theorem Ev.mul {a b : Int} (x : Ev (model prog w) s A env h l (IsI a)) (y : Ev (model prog w) s A env h r (IsI b)) (hm : IntMulOk a b) : Ev (model prog w) s A env h (.BinOp l .Mult r pos) (IsI (a * b)) := x.bin y fun _ _ _ _ _ q => mul_int (q _ _) hm
theorem Ev.mod {a b : Int} (x : Ev (model prog w) s A env h l (IsI a)) (y : Ev (model prog w) s A env h r (IsI b)) (hb : b ≠ 0) : Ev (model prog w) s A env h (.BinOp l .Mod r pos) (IsI (a.fmod b)) := x.bin y fun _ _ _ _ _ q => mod_int' hb (q _ _)
theorem Ev.fdiv {a b : Int} (x : Ev (model prog w) s A env h l (IsI a)) (y : Ev (model prog w) s A env h r (IsI b)) (hb : b ≠ 0) (hp : Builtin.divisionGoesByPylong a b = false) : Ev (model prog w) s A env h (.BinOp l .FloorDiv r pos) (IsI (a.fdiv b)) := x.bin y fun _ _ _ _ _ q => floordiv_int hb (q _ _) (.inl hp)
theorem Ev.xor {a b : Int} (x : Ev (model prog w) s A env h l (IsI a)) (y : Ev (model prog w) s A env h r (IsI b)) : Ev (model prog w) s A env h (.BinOp l .BitXor r pos) (IsI (Builtin.bitXor a b)) := x.bin y fun _ _ _ _ _ q => xor_int (q _ _)
theorem Ev.and {a b : Int} (x : Ev (model prog w) s A env h l (IsI a)) (y : Ev (model prog w) s A env h r (IsI b)) : Ev (model prog w) s A env h (.BinOp l .BitAnd r pos) (IsI (Builtin.bitAnd a b)) := x.bin y fun _ _ _ _ _ q => and_int (q _ _)
theorem Ev.shl {a b : Int} (x : Ev (model prog w) s A env h l (IsI a)) (y : Ev (model prog w) s A env h r (IsI b)) (hn : 0 ≤ b) (hn2 : b ≤ 1000000) (ha : a.natAbs < 2 ^ 64) : Ev (model prog w) s A env h (.BinOp l .LShift r pos) (IsI (a * 2 ^ b.toNat)) := x.bin y fun _ _ _ _ _ q => lshift_int_small hn hn2 ha (q _ _)
theorem Ev.shr {a b : Int} (x : Ev (model prog w) s A env h l (IsI a)) (y : Ev (model prog w) s A env h r (IsI b)) (hn : 0 ≤ b) : Ev (model prog w) s A env h (.BinOp l .RShift r pos) (IsI (a.fdiv (2 ^ b.toNat))) := x.bin y fun _ _ _ _ _ q => rshift_int hn (q _ _)
theorem Ev.pow {a b : Int} (x : Ev (model prog w) s A env h l (IsI a)) (y : Ev (model prog w) s A env h r (IsI b)) (hn : 0 ≤ b) (hsz : (Builtin.Int.intBits a : Int) * b ≤ 2 ^ 27) : Ev (model prog w) s A env h (.BinOp l .Pow r pos) (IsI (a ^ b.toNat)) := x.bin y fun _ _ _ _ _ q => pow_int hn hsz (q _ _)
/-- tests -/
theorem EvT.cmp {op : CmpOp} {a b : Int} {c : Bool} (x : Ev (model prog w) s A env h l (IsI a)) (y : Ev (model prog w) s A env h r (IsI b))
    (z : ∀ (s' : Shared) t u (Q : Value → Shared → Prop) (E : Value → Shared → Prop), Q (.bool c) s' → wpAny (model prog w) A (compareOp op (.int a t) (.int b u)) Q E s')
    (hm : behindInMarks op r = false := by with_unfolding_all rfl) : EvT (model prog w) s A env h (.Compare l [op] [r] pos) c :=
  fun h₁ k Q X q => wpH_isTrue_Compare1 (x h₁ k _ _ fun v h₂ k₂ hv => y h₂ (k.trans k₂) _ _ fun u h₃ k₃ hu => by
    obtain ⟨t, rfl⟩ := hv _ Keep.rfl
    obtain ⟨t', rfl⟩ := hu _ Keep.rfl
    exact wpH_any fun tk => z _ _ _ _ _ ⟨h₃, tk, rfl, wpH_any fun tk => wpAny_truthy_bool ⟨h₃, tk, rfl, q _ (k₂.trans k₃)⟩⟩) hm
theorem EvT.eq {a b : Int} (x : Ev (model prog w) s A env h l (IsI a)) (y : Ev (model prog w) s A env h r (IsI b)) (hm : behindInMarks .Eq r = false := by with_unfolding_all rfl) : EvT (model prog w) s A env h (.Compare l [.Eq] [r] pos) (a == b) := EvT.cmp x y (fun _ _ _ _ _ q => eq_int q) hm
theorem EvT.ne {a b : Int} (x : Ev (model prog w) s A env h l (IsI a)) (y : Ev (model prog w) s A env h r (IsI b)) (hm : behindInMarks .NotEq r = false := by with_unfolding_all rfl) : EvT (model prog w) s A env h (.Compare l [.NotEq] [r] pos) (a != b) := EvT.cmp x y (fun _ _ _ _ _ q => ne_int q) hm
theorem EvT.gt {a b : Int} (x : Ev (model prog w) s A env h l (IsI a)) (y : Ev (model prog w) s A env h r (IsI b)) (hm : behindInMarks .Gt r = false := by with_unfolding_all rfl) : EvT (model prog w) s A env h (.Compare l [.Gt] [r] pos) (decide (a > b)) := EvT.cmp x y (fun _ _ _ _ _ q => gt_int q) hm
/-- truth of an int -/
theorem EvT.int {a : Int} (x : Ev (model prog w) s A env h e (IsI a)) (he : ∀ whole, isTrue e env whole = (do let v ← whole; standAt e.pos; holding [v] (truthy v)) := by intro _; rfl) : EvT (model prog w) s A env h e (a != 0) :=
  fun h₁ k Q X q => wpH_isTrue_value (x h₁ k _ _ fun v h₂ k₂ hv => by
    obtain ⟨t, rfl⟩ := hv _ Keep.rfl
    exact wpH_any fun tk => truthy_int ⟨h₂, tk, rfl, q _ k₂⟩) (he _)
/-- or, and of two tests -/
theorem EvT.or {b c : Bool} (x : EvT (model prog w) s A env h l b) (y : b = false → EvT (model prog w) s A env h r c) : EvT (model prog w) s A env h (.BoolOp .Or [l, r] pos) (b || c) := fun h₁ k Q X q => by
  rw [arm_isTrue_BoolOp]
  show wpH _ _ _ (do match BoolOp.Or, ← isTrue l env (eval l env) with | .And, false => pure false | .Or, true => pure true | _, _ => allTrue .Or [r] env) _ _ _
  refine wpH_bind (x h₁ k _ _ fun h₂ k₂ => ?_)
  cases b with
  | true => exact wpH_pure (q _ k₂)
  | false =>
    show wpH _ _ _ (do match BoolOp.Or, ← isTrue r env (eval r env) with | .And, false => pure false | .Or, true => pure true | _, _ => allTrue .Or [] env) _ _ _
    refine wpH_bind (y rfl h₂ (k.trans k₂) _ _ fun h₃ k₃ => ?_)
    cases c <;> exact wpH_pure (q _ (k₂.trans k₃))
theorem EvT.and {b c : Bool} (x : EvT (model prog w) s A env h l b) (y : b = true → EvT (model prog w) s A env h r c) : EvT (model prog w) s A env h (.BoolOp .And [l, r] pos) (b && c) := fun h₁ k Q X q => by
  rw [arm_isTrue_BoolOp]
  show wpH _ _ _ (do match BoolOp.And, ← isTrue l env (eval l env) with | .And, false => pure false | .Or, true => pure true | _, _ => allTrue .And [r] env) _ _ _
  refine wpH_bind (x h₁ k _ _ fun h₂ k₂ => ?_)
  cases b with
  | false => exact wpH_pure (q _ k₂)
  | true =>
    show wpH _ _ _ (do match BoolOp.And, ← isTrue r env (eval r env) with | .And, false => pure false | .Or, true => pure true | _, _ => allTrue .And [] env) _ _ _
    refine wpH_bind (y rfl h₂ (k.trans k₂) _ _ fun h₃ k₃ => ?_)
    cases c <;> exact wpH_pure (q _ (k₂.trans k₃))
theorem Ev.ifexp {t b o : Expr} {c : Bool} (x : EvT (model prog w) s A env h t c) (y : c = true → Ev (model prog w) s A env h b V) (z : c = false → Ev (model prog w) s A env h o V) : Ev (model prog w) s A env h (.IfExp t b o pos) V := fun h₁ k Q X q => by
  show wpH _ _ _ (do if ← isTrue t env (eval t env) then eval b env else eval o env) _ _ _
  refine wpH_bind (x h₁ k _ _ fun h₂ k₂ => ?_)
  cases c with
  | true => exact y rfl h₂ (k.trans k₂) _ _ fun v h₃ k₃ hv => q _ _ (k₂.trans k₃) hv
  | false => exact z rfl h₂ (k.trans k₂) _ _ fun v h₃ k₃ hv => q _ _ (k₂.trans k₃) hv
/-- subscripts -/
theorem Ev.item {x : Str} {p : Pos} {i : Expr} {V W : Value → Heap → Prop} {c : Int} (y : Ev (model prog w) s A env h (.Name x p) V) (z : Ev (model prog w) s A env h i W)
    (hc : ∀ v u h₁, Keep h h₁ → V v h₁ → W u h₁ → ∀ tk (Q : Value → Shared → Prop) (E : Value → Shared → Prop), (∀ t tk', Q (.int c t) (stt s h₁ tk')) →
      wpAny (model prog w) A (subscriptTail (.Name x p) i v u) Q E (stt s h₁ tk)) : Ev (model prog w) s A env h (.Subscript (.Name x p) i pos) (IsI c) := fun h₁ k Q X q => by
  show wpH _ _ _ (do let o ← eval (.Name x p) env; let i' ← holding [o] (eval i env); standAt pos; let r ← subscripted i (← getitemInPython o) o i'; letTemporaryGo (.Name x p) o r; pure r) _ _ _
  refine wpH_bind (y h₁ k _ _ fun v h₂ k₂ hv => wpH_bind (wpH_holding (z h₂ (k.trans k₂) _ _ fun u h₃ k₃ hu => wpH_bind (wpH_standAt ?_))))
  exact wpH_any fun tk => hc v u h₃ ((k.trans k₂).trans k₃) (hv _ k₃) (hu _ Keep.rfl) tk _ _ fun t tk' => ⟨h₃, tk', rfl, q _ _ (k₂.trans k₃) fun _ _ => ⟨_, rfl⟩⟩
end
end Mine
namespace Mine
open PySem PySem.W PyProof.Rows PySem.Calls
open Sem (wp)

/-! ## The module's names -/
structure Gl (mg mb : Str → Option Value) (h : Heap) : Prop where
  g : h.Ns mainGlobals mg
  b : h.Ns builtinsNs mb
  blt : ∀ x : Str, x ≠ "__name__" → mb x = bootBuiltins x
  lim : h.NoLimit
theorem Gl.keeps {mg mb : Str → Option Value} {h h' : Heap} (G : Gl mg mb h) (k : Keep h h') : Gl mg mb h' := ⟨G.g.keeps k, G.b.keeps k, G.blt, G.lim.keeps k⟩

section
variable {prog : Program} {w : World} {s : Shared} {A : Around} {env : Env} {h : Heap} {B : Addr → Option Obj} {L : Addr} {l : List (Str × Value)} {N : List (Addr × Obj)} {mg mb : Str → Option Value} {X : Value → Heap → Prop}
theorem Ev.loc {x : Str} {pos : Pos} {v : Value} (F : Fra B L l N h) (hv : l.lookup x = some v := by rfl) (hL : env.locals = L := by rfl) (hk : env.scope.kind = .function := by rfl)
    (hl : env.kindOf x = some .local := by rfl) (hd : (x == ("__debug__" : Str)) = false := by decide) : Ev (model prog w) s A env h (.Name x pos) (Is v) := fun h₁ k Q X q => by
  obtain ⟨m, hn, hm⟩ := (F.keeps k).ns
  exact wpH_any fun tk => wpAny_Name (wpAny_loadName_local hk hl (hL ▸ hn) (hm x v hv) ⟨h₁, tk, rfl, q _ _ Keep.rfl fun _ _ => rfl⟩) hd
theorem Ev.locI {x : Str} {pos : Pos} {i : Int} {t : Tok} (F : Fra B L l N h) (hv : l.lookup x = some (.int i t) := by rfl) (hL : env.locals = L := by rfl) (hk : env.scope.kind = .function := by rfl)
    (hl : env.kindOf x = some .local := by rfl) (hd : (x == ("__debug__" : Str)) = false := by decide) : Ev (model prog w) s A env h (.Name x pos) (IsI i) := (Ev.loc F hv hL hk hl hd).toI
theorem Ev.glob {x : Str} {pos : Pos} {v : Value} (G : Gl mg mb h) (hv : mg x = some v) (hg : env.globals = mainGlobals := by rfl) (hk : env.scope.kind = .function := by rfl)
    (hl : env.kindOf x = some .globalImplicit := by rfl) (hd : (x == ("__debug__" : Str)) = false := by decide) : Ev (model prog w) s A env h (.Name x pos) (Is v) := fun h₁ k Q X q =>
  wpH_any fun tk => Name_function_global hk hl (loadGlobal_global (hg ▸ (G.keeps k).g) hv ⟨h₁, tk, rfl, q _ _ Keep.rfl fun _ _ => rfl⟩) hd
theorem Ev.blt {x : Str} {pos : Pos} {v : Value} (G : Gl mg mb h) (hm : mg x = none) (hv : bootBuiltins x = some v := by rfl) (hg : env.globals = mainGlobals := by rfl) (hb : env.builtins = builtinsNs := by rfl) (hk : env.scope.kind = .function := by rfl)
    (hl : env.kindOf x = some .globalImplicit := by rfl) (hn : x ≠ "__name__" := by decide) (hd : (x == ("__debug__" : Str)) = false := by decide) : Ev (model prog w) s A env h (.Name x pos) (Is v) := fun h₁ k Q X q =>
  wpH_any fun tk => Name_function_global hk hl (loadGlobal_builtin (hg ▸ (G.keeps k).g) hm (hb ▸ (G.keeps k).b) ((G.blt x hn).trans hv) ⟨h₁, tk, rfl, q _ _ Keep.rfl fun _ _ => rfl⟩) hd
/-- an item of a bytearray, of a list of ints -/
theorem Ev.itemB {x : Str} {p pos : Pos} {i : Expr} {b : Array UInt8} {k : Int} (y : Ev (model prog w) s A env h (.Name x p) (IsB b)) (z : Ev (model prog w) s A env h i (IsI k)) (h0 : 0 ≤ k) (h1 : k < b.size) (hb : b.size ≤ sizeLine)
    (hs : ∀ o u, subscripted i false o u = operate [o, u] (getItem o u) := by intros; with_unfolding_all rfl) : Ev (model prog w) s A env h (.Subscript (.Name x p) i pos) (IsI (b.getD k.toNat 0).toNat) := by
  refine Ev.item y z fun v u h₁ _ hv hu tk Q E q => ?_
  obtain ⟨a, rfl, ha⟩ := hv
  obtain ⟨t, rfl⟩ := hu
  exact subscriptTail_builtin (typeIs_ba ha) B.slot_getitem.lookup (getItem_ba (s := stt s h₁ tk) ha h0 h1 hb (q _ _)) (hs _ _) (fun _ => rfl)
theorem intsAre_get {vs : List Value} {ns : List Int} (hi : IntsAre vs ns) : ∀ k : Nat, k < ns.length → ∃ t, vs[k]? = some (.int (ns.getD k 0) t) := by
  induction hi with
  | nil => intro k hk; simp at hk
  | cons n t _ ih =>
    intro k hk
    cases k with
    | zero => exact ⟨t, by simp⟩
    | succ k =>
      obtain ⟨t', e⟩ := ih k (by simpa using hk)
      exact ⟨t', by simpa using e⟩
theorem Ev.itemL {x : Str} {p pos : Pos} {i : Expr} {ns : List Int} {k : Int} (y : Ev (model prog w) s A env h (.Name x p) (IsIL ns)) (z : Ev (model prog w) s A env h i (IsI k)) (h0 : 0 ≤ k) (h1 : k < ns.length) (h63 : ns.length < 2 ^ 63)
    (hs : ∀ o u, subscripted i false o u = operate [o, u] (getItem o u) := by intros; with_unfolding_all rfl) : Ev (model prog w) s A env h (.Subscript (.Name x p) i pos) (IsI (ns.getD k.toNat 0)) := by
  refine Ev.item y z fun v u h₁ _ hv hu tk Q E q => ?_
  obtain ⟨a, vs, rfl, ha, hi⟩ := hv
  obtain ⟨t, rfl⟩ := hu
  obtain ⟨t', e⟩ := intsAre_get hi k.toNat (by omega)
  exact item_listL (s := stt s h₁ tk) ha h0 (by omega) e (q _ _) (hs _ _) (fun _ => rfl)
/-- len -/
theorem Ev.call {f : Str} {p pos : Pos} {args : List Expr} {fv : Value} {W : List Value → Heap → Prop} {V : Value → Heap → Prop} (y : Ev (model prog w) s A env h (.Name f p) (Is fv)) (hf : keeperOf fv = pure .machine := by rfl) (z : EvL (model prog w) s A env h args W)
    (hc : ∀ vs h₁, Keep h h₁ → W vs h₁ → ∀ (Q X : Value → Heap → Prop), (∀ v h₂, Keep h₁ h₂ → (∀ h₃, Keep h₂ h₃ → V v h₃) → Q v h₂) → wpH (model prog w) s A (call fv vs) Q X h₁)
    (hne : ∀ pos, (backTo pos (starEach args env)).all (fun x => !x.1) = true := by intro _; rfl) : Ev (model prog w) s A env h (.Call (.Name f p) args [] pos) V := fun h₁ k Q X q => by
  refine wpH_Call (y h₁ k _ _ fun v h₂ k₂ hv => ?_)
  obtain rfl := hv _ Keep.rfl
  exact wpH_callWith_val hf (hne _) (z _ h₂ (k.trans k₂) _ _ fun vs h₃ k₃ hvs => hc vs h₃ ((k.trans k₂).trans k₃) (hvs _ Keep.rfl) _ _ fun v h₄ k₄ hv => q _ _ ((k₂.trans k₃).trans k₄) hv)
theorem Ev.lenB {x e : _} {p pos : Pos} {b : Array UInt8} (y : Ev (model prog w) s A env h (.Name x p) (Is (.builtin "len"))) (z : Ev (model prog w) s A env h e (IsB b)) (hb : b.size ≤ sizeLine)
    (he : starEach [e] env = (false, eval e env) :: starEach [] env := by rfl) (hne : ∀ pos, (backTo pos (starEach [e] env)).all (fun x => !x.1) = true := by intro _; rfl) : Ev (model prog w) s A env h (.Call (.Name x p) [e] [] pos) (IsI b.size) :=
  Ev.call y rfl (EvL.cons z EvL.nil he) (fun vs h₁ _ hvs Q X q => by
    obtain ⟨v, r, rfl, ⟨a, rfl, ha⟩, rfl⟩ := hvs
    exact wpH_any fun tk => len_ba (s := stt s h₁ tk) ha hb fun t tk' => ⟨h₁, tk', rfl, q _ _ Keep.rfl fun _ _ => ⟨_, rfl⟩⟩) hne
theorem Ev.lenL {x e : _} {p pos : Pos} {ns : List Int} (y : Ev (model prog w) s A env h (.Name x p) (Is (.builtin "len"))) (z : Ev (model prog w) s A env h e (IsIL ns)) (hb : ns.length < 2 ^ 63)
    (he : starEach [e] env = (false, eval e env) :: starEach [] env := by rfl) (hne : ∀ pos, (backTo pos (starEach [e] env)).all (fun x => !x.1) = true := by intro _; rfl) : Ev (model prog w) s A env h (.Call (.Name x p) [e] [] pos) (IsI ns.length) :=
  Ev.call y rfl (EvL.cons z EvL.nil he) (fun vs h₁ _ hvs Q X q => by
    obtain ⟨v, r, rfl, ⟨a, vs', rfl, ha, hi⟩, rfl⟩ := hvs
    have hl : vs'.length = ns.length := hi.length
    exact wpH_any fun tk => len_list (s := stt s h₁ tk) ha (by simp [hl]; omega) ⟨h₁, _, rfl, q _ _ Keep.rfl fun _ _ => ⟨_, by simp [hl]; rfl⟩⟩) hne
/-- a def of the text's -/
def Con (M : Model) (s : Shared) (A : Around) (f : Addr) (vs : List Value) (h : Heap) (V : Value → Heap → Prop) : Prop :=
  ∀ (Q X : Value → Heap → Prop), (∀ v h₂, Keep h h₂ → (∀ h₃, Keep h₂ h₃ → V v h₃) → Q v h₂) → wpH M s A (PySem.call (.ref f) vs) Q X h
theorem Ev.fn {f : Str} {p pos : Pos} {args : List Expr} {fa : Addr} {o : Obj} {fd : FuncData} {W : List Value → Heap → Prop} {V : Value → Heap → Prop} (y : Ev (model prog w) s A env h (.Name f p) (Is (.ref fa))) (ho : h.get? fa = some o) (hd : o.data = .func fd) (z : EvL (model prog w) s A env h args W)
    (hc : ∀ vs h₁, Keep h h₁ → W vs h₁ → Con (model prog w) s A fa vs h₁ V) (hlen : args.length ≤ 30 := by decide)
    (hln : ∀ pos, (backTo pos (starEach args env)).length = args.length := by intro _; rfl) (hne : ∀ pos, (backTo pos (starEach args env)).all (fun x => !x.1) = true := by intro _; rfl) : Ev (model prog w) s A env h (.Call (.Name f p) args [] pos) V := fun h₁ k Q X q => by
  refine wpH_Call (y h₁ k _ _ fun v h₂ k₂ hv => ?_)
  obtain rfl := hv _ Keep.rfl
  exact wpH_callWith_fn hd (by rw [hln]; exact hlen) (hne _) (z _ h₂ (k.trans k₂) _ _ fun vs h₃ k₃ hvs => ⟨((k.trans k₂).trans k₃) _ _ ho, hc vs h₃ ((k.trans k₂).trans k₃) (hvs _ Keep.rfl) _ _ fun v h₄ k₄ hv => q _ _ ((k₂.trans k₃).trans k₄) hv⟩)
/-- entering a def -/
theorem callH {f : Addr} {o : Obj} {fd : FuncData} {body : List Stmt} {args : List Value} {binds : List (Str × Value)} {Q : Value → Heap → Prop}
    (hroom : A.depth < recursionLimit) (ho : h.get? f = some o) (hd : o.data = .func fd) (hlim : h.NoLimit) (hcd : h.CodeRec fd.code fd.qualname) (hbody : fd.body = .stmts body)
    (hbind : ∀ tk, BindsTo (stt s h tk) fd ⟨args, []⟩ binds) (hcell : ∀ x ∈ fd.scope.names, x.2 ≠ .cell) (hloc : ∀ x ∈ binds, fd.scope.names.lookup x.1 = some .local)
    (x : ∀ L h₁, Fra h.get? L binds.reverse [] h₁ → wpH (model prog w) s (A.deeper (callEnv fd L f)) (execs body (callEnv fd L f)) (fun fl h' => Q (match fl with | .ret v => v | _ => .none) h')
      (fun e h' => wpH (model prog w) s (A.deeper (callEnv fd L f)) (leaving (callEnv fd L f) e) (fun _ h'' => X e h'') (fun e' h'' => X e' h'') h') h₁)
    (hco : fd.scope.isCoroutine = false := by rfl) (hgen : fd.scope.isGenerator = false := by rfl) (hk : fd.scope.kind = .function := by rfl) : wpH (model prog w) s A (PySem.call (.ref f) args) Q X h := by
  refine wpH_call (codeH_of_tree ?_)
  show wpH _ _ A.in1 (callAny (.ref f) ⟨args, []⟩) _ _ h
  simp only [callAny]
  refine wpH_bind (wpH_any fun tk => wpAny_load ho ⟨h, tk, rfl, ?_⟩)
  obtain ⟨c, oc, vs, tq, hc, hoc, hdc, hq⟩ := hcd
  simp only [hd, callFunction, hco, hgen, hbody, hc]
  refine wpH_bind (m := field (.ref c) 1) (wpH_any fun tk => wpAny_field hoc hdc hq ⟨h, tk, rfl, wpH_bind (wpH_pure ?_)⟩)
  refine wpH_bind (wpH_any fun tk => hbind tk _ _ _ _ ⟨h, tk, rfl, wpH_bind (wpH_any fun tk => wpAny_newFunctionEnv hcell hloc (fun h₁ hns hsb => ⟨h₁, _, rfl, ?_⟩) hk)⟩)
  have kp : Keep h h₁ := fun b o e => hsb.extBut b o (Nat.ne_of_lt (Heap.lt_size e)) (Heap.get?_push_of_some _ e)
  refine wpH_bind (wpH_any fun tk => wpAny_enterFrame (hlim.keeps kp) hroom ⟨h₁, tk, rfl, wpH_pure ⟨rfl, codeH_of_tree ?_⟩⟩)
  rw [← hc]
  have F : Fra h.get? h.objs.size binds.reverse [] h₁ := ⟨⟨_, hns, fun x v e => e⟩, kp, fun p hp => (nomatch hp), fun p hp => (nomatch hp), Heap.get?_none_of_le (Nat.le_refl _), List.nodup_nil⟩
  show wpH _ _ (A.deeper (callEnv fd h.objs.size f)) (do point; match ← (execs body (callEnv fd h.objs.size f)).onRaise (leaving (callEnv fd h.objs.size f)) with | .ret v => ret v | _ => ret .none) _ _ h₁
  refine wpH_bind (wpH_point (wpH_bind (wpH_onRaise (wpH_mono (x _ h₁ F) (fun fl h' q => ?_) fun _ _ q => q))))
  cases fl <;> exact wpH_pure q
/-- statements -/
theorem wpH_store {x : Str} {v : Value} {Q : Unit → Heap → Prop} (F : Fra B L l N h) (q : ∀ h', Heap.SameBut L h h' → Fra B L (setL x v l) N h' → Q () h') (hL : env.locals = L := by rfl) (hl : env.kindOf x = some .local := by rfl) (hk : env.scope.kind = .function := by rfl) :
    wpH (model prog w) s A (storeName env x v) Q X h := by
  obtain ⟨m, hn, hm⟩ := F.ns
  subst hL
  refine wpH_any fun tk => wpAny_storeName_local hl hn (fun h' hn' hs' => ⟨h', _, rfl, q h' hs' (F.stored hm hn' hs')⟩) (by rw [hk]; rfl)
theorem asg {x : Str} {p pos : Pos} {e : Expr} {V : Value → Heap → Prop} {Q : Flow → Heap → Prop} (F : Fra B L l N h) (y : Ev (model prog w) s A env h e V)
    (q : ∀ v h₁ h', Keep h h₁ → (∀ h₃, Keep h₁ h₃ → V v h₃) → Heap.SameBut L h₁ h' → Fra B L (setL x v l) N h' → Q .next h') (hs : swapsWith e (some (.Name x p)) pos.line env = pure false := by rfl)
    (hL : env.locals = L := by rfl) (hl : env.kindOf x = some .local := by rfl) (hk : env.scope.kind = .function := by rfl) : wpH (model prog w) s A (exec (.Assign [.Name x p] e pos) env) Q X h :=
  wpH_Assign_Name (y.wp fun v h₁ k hv => wpH_store (F.keeps k) (fun h' sb F' => q v h₁ h' k hv sb F') hL hl hk) hs
theorem asgI {x : Str} {p pos : Pos} {e : Expr} {i : Int} {Q : Flow → Heap → Prop} (F : Fra B L l N h) (y : Ev (model prog w) s A env h e (IsI i))
    (q : ∀ t h', Fra B L (setL x (.int i t) l) N h' → Q .next h') (hs : swapsWith e (some (.Name x p)) pos.line env = pure false := by rfl)
    (hL : env.locals = L := by rfl) (hl : env.kindOf x = some .local := by rfl) (hk : env.scope.kind = .function := by rfl) : wpH (model prog w) s A (exec (.Assign [.Name x p] e pos) env) Q X h :=
  asg F y (fun v h₁ h' _ hv _ F' => by obtain ⟨t, rfl⟩ := hv _ Keep.rfl; exact q t h' F') hs hL hl hk
theorem iff {t : Expr} {b : Bool} {body orelse : List Stmt} {pos : Pos} {Q : Flow → Heap → Prop} (y : EvT (model prog w) s A env h t b)
    (q1 : b = true → ∀ h', Keep h h' → wpH (model prog w) s A (execs body env) Q X h') (q2 : b = false → ∀ h', Keep h h' → wpH (model prog w) s A (execs orelse env) Q X h') : wpH (model prog w) s A (exec (.If t body orelse pos) env) Q X h := by
  refine wpH_If (y h Keep.rfl _ _ fun h₂ k => ?_)
  cases b with
  | true => exact q1 rfl h₂ k
  | false => exact q2 rfl h₂ k
theorem retE {e : Expr} {pos : Pos} {V : Value → Heap → Prop} {Q : Flow → Heap → Prop} (y : Ev (model prog w) s A env h e V) (q : ∀ v h₁, Keep h h₁ → (∀ h₃, Keep h₁ h₃ → V v h₃) → Q (.ret v) h₁) : wpH (model prog w) s A (exec (.Return (some e) pos) env) Q X h :=
  wpH_Return (y.wp q)
end
end Mine
namespace Mine
/-! ## The field of 256 by doubling -/
def xt (x : Nat) : Nat := x * 2 ^^^ x / 128 * 285
def gexp : Nat → Nat
  | 0 => 1
  | k + 1 => xt (gexp k)
theorem xor_add_and : ∀ x y : Nat, (x ^^^ y) + 2 * (x &&& y) = x + y := by
  intro x
  induction x using Nat.strongRecOn with
  | ind x ih =>
    intro y
    by_cases hx : x = 0
    · subst hx; simp
    · have := ih (x / 2) (by omega) (y / 2)
      rw [← Nat.xor_div_two, ← Nat.and_div_two] at this
      have h1 := @Nat.xor_mod_two_eq_one x y
      have h2 := @Nat.and_mod_two_eq_one x y
      have e1 : (x ^^^ y) % 2 < 2 := Nat.mod_lt _ (by decide)
      have e2 : (x &&& y) % 2 < 2 := Nat.mod_lt _ (by decide)
      omega
theorem xt_xor {x y : Nat} (hx : x < 256) (hy : y < 256) : xt (x ^^^ y) = xt x ^^^ xt y := by
  unfold xt
  have e1 : (x ^^^ y) * 2 = x * 2 ^^^ y * 2 := by
    have := @Nat.shiftLeft_xor_distrib 1 x y
    simpa [Nat.shiftLeft_eq] using this
  have e2 : (x ^^^ y) / 128 = x / 128 ^^^ y / 128 := Nat.xor_div_two_pow (n := 7)
  rw [e1, e2]
  have a : x / 128 = 0 ∨ x / 128 = 1 := by omega
  have b : y / 128 = 0 ∨ y / 128 = 1 := by omega
  have c : (x / 128 ^^^ y / 128) * 285 = x / 128 * 285 ^^^ y / 128 * 285 := by rcases a with a | a <;> rcases b with b | b <;> rw [a, b] <;> decide
  rw [c]
  simp only [Nat.xor_assoc]
  congr 1
  rw [← Nat.xor_assoc, ← Nat.xor_assoc, Nat.xor_comm (y * 2)]
theorem xor_lt {x y : Nat} (hx : x < 256) (hy : y < 256) : x ^^^ y < 256 := Nat.xor_lt_two_pow (n := 8) hx hy
theorem xt_lt : ∀ x : Nat, x < 256 → xt x < 256 := by decide +kernel
theorem xt_zero : xt 0 = 0 := rfl
theorem xt_eq_zero : ∀ x : Nat, x < 256 → xt x = 0 → x = 0 := by decide +kernel
theorem gexp_lt : ∀ k, gexp k < 256
  | 0 => by decide
  | k + 1 => xt_lt _ (gexp_lt k)
theorem xor_eq_zero {x y : Nat} (h : x ^^^ y = 0) : x = y := by
  have : x ^^^ y ^^^ y = 0 ^^^ y := by rw [h]
  rwa [Nat.xor_assoc, Nat.xor_self, Nat.xor_zero, Nat.zero_xor] at this
theorem xt_inj {x y : Nat} (hx : x < 256) (hy : y < 256) (e : xt x = xt y) : x = y := by
  refine xor_eq_zero (xt_eq_zero _ (xor_lt hx hy) ?_)
  rw [xt_xor hx hy, e, Nat.xor_self]
def xts : Nat → Nat → Nat
  | 0, x => x
  | k + 1, x => xt (xts k x)
theorem xts_lt : ∀ k x, x < 256 → xts k x < 256
  | 0, _, h => h
  | k + 1, x, h => xt_lt _ (xts_lt k x h)
theorem xts_zero : ∀ k, xts k 0 = 0
  | 0 => rfl
  | k + 1 => by show xt (xts k 0) = 0; rw [xts_zero k]; rfl
theorem xts_xor {x y : Nat} (hx : x < 256) (hy : y < 256) : ∀ k, xts k (x ^^^ y) = xts k x ^^^ xts k y
  | 0 => rfl
  | k + 1 => by show xt (xts k _) = xt _ ^^^ xt _; rw [xts_xor hx hy k, xt_xor (xts_lt k x hx) (xts_lt k y hy)]
theorem gexp_add (i : Nat) : ∀ j, gexp (i + j) = xts j (gexp i)
  | 0 => rfl
  | j + 1 => by show xt (gexp (i + j)) = xt (xts j (gexp i)); rw [gexp_add i j]
theorem gexp_inj_add {i j : Nat} : ∀ d, gexp (i + d) = gexp (j + d) → gexp i = gexp j
  | 0, e => e
  | d + 1, e => gexp_inj_add d (xt_inj (gexp_lt _) (gexp_lt _) e)
def elist : Nat → Nat → List Nat
  | 0, _ => []
  | n + 1, x => x :: elist n (xt x)
theorem xts_xt (x : Nat) : ∀ k, xts k (xt x) = xts (k + 1) x
  | 0 => rfl
  | k + 1 => by show xt (xts k (xt x)) = xt (xts (k + 1) x); rw [xts_xt x k]
theorem mem_elist : ∀ n x y, y ∈ elist n x → ∃ k, k < n ∧ xts k x = y
  | 0, _, _, h => by cases h
  | n + 1, x, y, h => by
    rcases List.mem_cons.mp h with rfl | h
    · exact ⟨0, by omega, rfl⟩
    · obtain ⟨k, hk, e⟩ := mem_elist n (xt x) y h
      exact ⟨k + 1, by omega, by rw [← xts_xt]; exact e⟩
theorem elist_all : ∀ x : Nat, x < 255 → (elist 255 1).contains (x + 1) = true := by decide +kernel
theorem gexp_255 : gexp 255 = 1 := by decide +kernel
theorem elist_once : ∀ d : Nat, d < 254 → ((elist 255 1).getD (d + 1) 1 != 1) = true := by decide +kernel
theorem getD_elist : ∀ n x k, k < n → (elist n x).getD k 1 = xts k x
  | 0, _, _, h => by omega
  | n + 1, x, 0, _ => rfl
  | n + 1, x, k + 1, h => by show (elist n (xt x)).getD k 1 = _; rw [getD_elist n (xt x) k (by omega), xts_xt]
theorem gexp_eq_xts (k : Nat) : gexp k = xts k 1 := by have := gexp_add 0 k; rwa [Nat.zero_add] at this
theorem gexp_surj {x : Nat} (h0 : x ≠ 0) (h : x < 256) : ∃ k, k < 255 ∧ gexp k = x := by
  have := elist_all (x - 1) (by omega)
  rw [List.contains_iff_mem, show x - 1 + 1 = x by omega] at this
  obtain ⟨k, hk, e⟩ := mem_elist _ _ _ this
  exact ⟨k, hk, (gexp_eq_xts k).trans e⟩
theorem gexp_ne_one {d : Nat} (h0 : 0 < d) (h : d < 255) : gexp d ≠ 1 := by
  have := elist_once (d - 1) (by omega)
  rw [show d - 1 + 1 = d by omega, getD_elist _ _ _ h, ← gexp_eq_xts] at this
  simpa using this
theorem gexp_period (k : Nat) : gexp (k + 255) = gexp k := by rw [Nat.add_comm, gexp_add, gexp_255, ← gexp_eq_xts]
theorem gexp_mod (k : Nat) : gexp (k % 255) = gexp k := by
  have : ∀ m r, gexp (r + 255 * m) = gexp r := fun m r => by
    induction m with
    | zero => rfl
    | succ m ih => rw [show r + 255 * (m + 1) = (r + 255 * m) + 255 by omega, gexp_period, ih]
  have := this (k / 255) (k % 255)
  rw [Nat.mod_add_div] at this
  exact this.symm
theorem gexp_ne_zero : ∀ k, gexp k ≠ 0
  | 0 => by decide
  | k + 1 => fun e => gexp_ne_zero k (xt_eq_zero _ (gexp_lt k) e)
theorem gexp_inj {i j : Nat} (hi : i < 255) (hj : j < 255) (e : gexp i = gexp j) : i = j := by
  have key : ∀ i j, i < j → j < 255 → gexp i = gexp j → False := fun i j hij hj e => by
    refine gexp_ne_one (d := j - i) (by omega) (by omega) ?_
    have := gexp_inj_add (i := j - i) (j := 0) i (by rw [show j - i + i = j by omega, Nat.zero_add]; exact e.symm)
    exact this
  rcases Nat.lt_trichotomy i j with h | h | h
  · exact (key i j h hj e).elim
  · exact h
  · exact (key j i h hi e.symm).elim
def glog (x : Nat) : Nat := ((List.range 255).find? fun k => gexp k == x).getD 0
theorem glog_spec {x : Nat} (h0 : x ≠ 0) (h : x < 256) : glog x < 255 ∧ gexp (glog x) = x := by
  obtain ⟨k, hk, e⟩ := gexp_surj h0 h
  unfold glog
  cases hf : (List.range 255).find? fun k => gexp k == x with
  | none =>
    have := List.find?_eq_none.mp hf k (List.mem_range.mpr hk)
    simp [e] at this
  | some j =>
    have h1 := List.find?_some hf
    have h2 := List.mem_of_find?_eq_some hf
    exact ⟨by simpa using h2, by simpa using h1⟩
theorem glog_gexp {k : Nat} (hk : k < 255) : glog (gexp k) = k := by
  obtain ⟨a, b⟩ := glog_spec (gexp_ne_zero k) (gexp_lt k)
  exact gexp_inj a hk b
/-- product and quotient -/
def gm (a b : Nat) : Nat := if a = 0 ∨ b = 0 then 0 else gexp ((glog a + glog b) % 255)
def gd (a b : Nat) : Nat := if a = 0 then 0 else gexp ((glog a + 255 - glog b) % 255)
theorem gm_exp (i j : Nat) : gm (gexp i) (gexp j) = gexp (i + j) := by
  unfold gm
  rw [if_neg (by intro h; rcases h with h | h <;> exact gexp_ne_zero _ h), gexp_mod]
  have a := (glog_spec (gexp_ne_zero i) (gexp_lt i)).2
  have b := (glog_spec (gexp_ne_zero j) (gexp_lt j)).2
  rw [gexp_add, a, ← gexp_add, Nat.add_comm, gexp_add, b, ← gexp_add, Nat.add_comm]
theorem gm_zero_left (b : Nat) : gm 0 b = 0 := by simp [gm]
theorem gm_zero_right (b : Nat) : gm b 0 = 0 := by simp [gm]
theorem gm_lt (a b : Nat) : gm a b < 256 := by
  unfold gm; split
  · decide
  · exact gexp_lt _
theorem gd_lt (a b : Nat) : gd a b < 256 := by
  unfold gd; split
  · decide
  · exact gexp_lt _
theorem gm_comm (a b : Nat) : gm a b = gm b a := by unfold gm; simp only [Nat.add_comm, or_comm]
theorem cases_exp {x : Nat} (h : x < 256) : x = 0 ∨ ∃ k, x = gexp k := by
  by_cases h0 : x = 0
  · exact .inl h0
  · obtain ⟨k, _, e⟩ := gexp_surj h0 h; exact .inr ⟨k, e.symm⟩
theorem gm_assoc {a b c : Nat} (ha : a < 256) (hb : b < 256) (hc : c < 256) : gm (gm a b) c = gm a (gm b c) := by
  rcases cases_exp ha with rfl | ⟨i, rfl⟩
  · simp [gm_zero_left]
  rcases cases_exp hb with rfl | ⟨j, rfl⟩
  · simp [gm_zero_left, gm_zero_right]
  rcases cases_exp hc with rfl | ⟨k, rfl⟩
  · simp [gm_zero_right]
  rw [gm_exp, gm_exp, gm_exp, gm_exp, Nat.add_assoc]
theorem gm_one {a : Nat} (ha : a < 256) : gm 1 a = a := by
  rcases cases_exp ha with rfl | ⟨i, rfl⟩
  · exact gm_zero_right _
  · exact (gm_exp 0 i).trans (by rw [Nat.zero_add])
theorem gm_eq_xts {b : Nat} (i : Nat) (hb : b < 256) : gm (gexp i) b = xts i b := by
  rcases cases_exp hb with rfl | ⟨j, rfl⟩
  · rw [gm_zero_right, xts_zero]
  · rw [gm_exp, Nat.add_comm, gexp_add]
theorem gm_xor {a b c : Nat} (ha : a < 256) (hb : b < 256) (hc : c < 256) : gm a (b ^^^ c) = gm a b ^^^ gm a c := by
  rcases cases_exp ha with rfl | ⟨i, rfl⟩
  · simp [gm_zero_left]
  · rw [gm_eq_xts i hb, gm_eq_xts i hc, gm_eq_xts i (xor_lt hb hc), xts_xor hb hc]
theorem gm_eq_zero {a b : Nat} (h : gm a b = 0) : a = 0 ∨ b = 0 := by
  unfold gm at h
  split at h
  · assumption
  · exact absurd h (gexp_ne_zero _)
theorem gm_gd {a b : Nat} (ha : a < 256) (hb : b < 256) (h0 : b ≠ 0) : gm (gd a b) b = a := by
  obtain ⟨l1, e1⟩ := glog_spec h0 hb
  unfold gd
  by_cases h : a = 0
  · subst h; simp [gm_zero_left]
  · rw [if_neg h, gexp_mod]
    obtain ⟨l2, e2⟩ := glog_spec h ha
    conv => lhs; rhs; rw [← e1]
    rw [gm_exp, show glog a + 255 - glog b + glog b = glog a + 255 by omega, gexp_period, e2]
end Mine
namespace Mine
open PySem PySem.W PyProof.Rows PySem.Calls
open Sem (wp)

/-! ## The module behind its top -/
abbrev pw : Program := PySem.Challenge.pw_md0024_01
def fnAt (i : Nat) : Str × Arguments × List Stmt × Scope :=
  match pw.main.body[i]? with
  | some (.FunctionDef n a b _ _ _ sc _ _ _) => (n, a, b, sc)
  | _ => (default, ⟨[], [], none, [], [], none, []⟩, [], default)
def fdOf (i : Nat) (dV pm code doc : Value) : FuncData := defFd (fnAt i).1 (fnAt i).1 (fnAt i).2.1 (fnAt i).2.2.1 (fnAt i).2.2.2 mainGlobals dV .none none pm code doc

structure Tab (lg ex : Array UInt8) : Prop where
  lsz : lg.size = 256
  esz : ex.size = 510
  e : ∀ k, k < 510 → (ex.getD k 0).toNat = gexp (k % 255)
  l : ∀ k, k < 255 → (lg.getD (gexp k) 0).toNat = k

structure FnAt (h : Heap) (a : Addr) (i : Nat) : Prop where
  at' : ∃ o dV pm c doc, h.get? a = some o ∧ o.data = .func (fdOf i dV pm (.ref c) doc) ∧ h.CodeRec (.ref c) (fnAt i).1 ∧ ((fnAt i).2.1.defaults = [] → dV = .none)
theorem FnAt.keeps {h h' : Heap} {a : Addr} {i : Nat} (x : FnAt h a i) (k : Keep h h') : FnAt h' a i :=
  let ⟨o, dV, pm, c, doc, h1, h2, h3, h4⟩ := x.at'; ⟨o, dV, pm, c, doc, k _ _ h1, h2, h3.keeps k, h4⟩
def defIx : List Nat := [4, 5, 6, 7, 9, 10, 11, 12, 15, 16, 17]
def freeNames : List Str := ["len", "max", "bytearray", "range", "enumerate", "sorted", "list", "zip", "ZeroDivisionError"]
structure Md (fa : Nat → Addr) (la ea : Addr) (lg ex : Array UInt8) (mg mb : Str → Option Value) (h : Heap) : Prop where
  gl : Gl mg mb h
  fn : ∀ i ∈ defIx, mg (fnAt i).1 = some (.ref (fa i)) ∧ FnAt h (fa i) i
  lo : mg "gf_log" = some (.ref la) ∧ h.get? la = some (ba lg)
  exx : mg "gf_exp" = some (.ref ea) ∧ h.get? ea = some (ba ex)
  fc : ∃ t, mg "field_charac" = some (.int 255 t)
  bt : mg "_bytearray" = some (.type "bytearray")
  xr : mg "xrange" = some (.type "range")
  fr : ∀ x ∈ freeNames, mg x = none
  tab : Tab lg ex
theorem Md.keeps {fa : Nat → Addr} {la ea : Addr} {lg ex : Array UInt8} {mg mb : Str → Option Value} {h h' : Heap} (x : Md fa la ea lg ex mg mb h) (k : Keep h h') : Md fa la ea lg ex mg mb h' :=
  ⟨x.gl.keeps k, fun i hi => ⟨(x.fn i hi).1, (x.fn i hi).2.keeps k⟩, ⟨x.lo.1, k _ _ x.lo.2⟩, ⟨x.exx.1, k _ _ x.exx.2⟩, x.fc, x.bt, x.xr, x.fr, x.tab⟩

section
variable {prog : Program} {w : World} {s : Shared} {A : Around} {env : Env} {h : Heap} {fa : Nat → Addr} {la ea : Addr} {lg ex : Array UInt8} {mg mb : Str → Option Value}
/-- room for the frames above -/
structure Room (A : Around) (n : Nat) : Prop where
  d : A.depth + n < recursionLimit
  g : A.guards = some []
  u : A.units + 3 * n + 200 < 9900
  hd : A.handled = none
theorem Room.deeper {A : Around} {n : Nat} {env : Env} (r : Room A (n + 1)) : Room (A.deeper env) n := ⟨by have := r.d; show A.depth + 1 + n < _; omega, r.g, by have := r.u; show A.units + 3 + 3 * n + 200 < _; omega, r.hd⟩
theorem Room.le {A : Around} {n m : Nat} (r : Room A n) (h : m ≤ n) : Room A m := ⟨by have := r.d; omega, r.g, by have := r.u; omega, r.hd⟩
/-- a call of the module's def i, for values given by position -/
theorem con_of {i : Nat} {vs : List Value} {V : Value → Heap → Prop} {names : List Str} {n : Nat} (D : Md fa la ea lg ex mg mb h) (R : Room A (n + 1)) (hi : i ∈ defIx)
    (hb : ∀ pm c doc, bindArgs (fdOf i .none pm c doc) ⟨vs, []⟩ = pure (names.zip vs)) (hcell : ∀ x ∈ (fnAt i).2.2.2.names, x.2 ≠ .cell) (hloc : ∀ x ∈ names.zip vs, (fnAt i).2.2.2.names.lookup x.1 = some .local)
    (x : ∀ L pm c doc h₁ (Q X : Value → Heap → Prop), Md fa la ea lg ex mg mb h₁ → Keep h h₁ → Fra h.get? L (names.zip vs).reverse [] h₁ → Room (A.deeper (callEnv (fdOf i .none pm c doc) L (fa i))) n →
      (∀ v h₂, Keep h h₂ → (∀ h₃, Keep h₂ h₃ → V v h₃) → Q v h₂) →
      wpH (model prog w) s (A.deeper (callEnv (fdOf i .none pm c doc) L (fa i))) (execs (fnAt i).2.2.1 (callEnv (fdOf i .none pm c doc) L (fa i))) (fun fl h' => Q (match fl with | .ret v => v | _ => .none) h') noX h₁)
    (hdf : (fnAt i).2.1.defaults = [] := by rfl) (hco : (fnAt i).2.2.2.isCoroutine = false := by rfl) (hgen : (fnAt i).2.2.2.isGenerator = false := by rfl) (hk : (fnAt i).2.2.2.kind = .function := by rfl) :
    Con (model prog w) s A (fa i) vs h V := fun Q X q => by
  obtain ⟨o, dV, pm, c, doc, h1, h2, h3, h4⟩ := (D.fn i hi).2.at'
  obtain rfl := h4 hdf
  refine callH (by have := R.d; omega) h1 h2 D.gl.lim h3 rfl (fun tk => .of_eq (hb _ _ _)) hcell hloc (fun L h₁ F => ?_) hco hgen hk
  exact wpH_mono (x L pm (.ref c) doc h₁ Q X (D.keeps F.keep) F.keep F R.deeper q) (fun _ _ z => z) fun _ _ z => z.elim
end
end Mine
namespace Mine
open PySem PySem.W PyProof.Rows PySem.Calls
open Sem (wp)
def mulT (lg ex : Array UInt8) (x y : Int) : Int :=
  if x = 0 ∨ y = 0 then 0 else ((ex.getD (((((lg.getD x.toNat 0).toNat : Int) + ((lg.getD y.toNat 0).toNat : Int)).fmod 255).toNat) 0).toNat : Int)
section
variable {prog : Program} {w : World} {s : Shared} {A : Around} {h : Heap} {fa : Nat → Addr} {la ea : Addr} {lg ex : Array UInt8} {mg mb : Str → Option Value}
theorem sz_of (n : Nat) (h : n ≤ 1000) : n ≤ sizeLine := by rw [sizeLine_eq]; omega
theorem Ev.logs {env : Env} {p : Pos} (D : Md fa la ea lg ex mg mb h) (hg : env.globals = mainGlobals := by rfl) (hk : env.scope.kind = .function := by rfl) (hl : env.kindOf "gf_log" = some .globalImplicit := by rfl) : Ev (model prog w) s A env h (.Name "gf_log" p) (IsB lg) :=
  (Ev.glob D.gl D.lo.1 hg hk hl).mono fun v h' k e => ⟨la, e, k _ _ D.lo.2⟩
theorem Ev.exps {env : Env} {p : Pos} (D : Md fa la ea lg ex mg mb h) (hg : env.globals = mainGlobals := by rfl) (hk : env.scope.kind = .function := by rfl) (hl : env.kindOf "gf_exp" = some .globalImplicit := by rfl) : Ev (model prog w) s A env h (.Name "gf_exp" p) (IsB ex) :=
  (Ev.glob D.gl D.exx.1 hg hk hl).mono fun v h' k e => ⟨ea, e, k _ _ D.exx.2⟩
theorem Ev.fc {env : Env} {p : Pos} (D : Md fa la ea lg ex mg mb h) (hg : env.globals = mainGlobals := by rfl) (hk : env.scope.kind = .function := by rfl) (hl : env.kindOf "field_charac" = some .globalImplicit := by rfl) : Ev (model prog w) s A env h (.Name "field_charac" p) (IsI 255) :=
  let ⟨_, e⟩ := D.fc; (Ev.glob D.gl e hg hk hl).toI
theorem byte_lt (b : UInt8) : b.toNat < 256 := b.toNat_lt
theorem fmod_range (a : Int) {n : Int} (hn : 0 < n) : 0 ≤ a.fmod n ∧ a.fmod n < n := ⟨Int.fmod_nonneg_of_pos _ hn, Int.fmod_lt_of_pos _ hn⟩
theorem con_mul (D : Md fa la ea lg ex mg mb h) (R : Room A 1) {x y : Int} {t u : Tok} (hx : 0 ≤ x ∧ x < 256) (hy : 0 ≤ y ∧ y < 256) : Con (model prog w) s A (fa 5) [.int x t, .int y u] h (IsI (mulT lg ex x y)) := by
  have hl := D.tab.lsz
  have he := D.tab.esz
  refine con_of (names := ["x", "y"]) D R (by decide) (fun _ _ _ => by rfl) (by decide) (locs (by rfl)) fun L pm c doc h₁ Q X D₁ k₁ F _ q => ?_
  refine wpH_execs_cons (iff (EvT.or (EvT.eq (Ev.locI F) Ev.int) fun _ => EvT.eq (Ev.locI F) Ev.int) (fun e h₂ k₂ => ?_) fun e h₂ k₂ => ?_)
  · refine wpH_execs_cons (retE Ev.int fun v h₃ k₃ hv => q _ _ ((k₁.trans k₂).trans k₃) fun h₄ k₄ => ?_)
    obtain ⟨t', rfl⟩ := hv _ Keep.rfl
    rw [mulT, if_pos (by simpa using e)]
    exact ⟨_, rfl⟩
  · have F₂ := F.keeps k₂
    have D₂ := D₁.keeps k₂
    have r := fmod_range (((lg.getD x.toNat 0).toNat : Int) + ((lg.getD y.toNat 0).toNat : Int)) (n := 255) (by omega)
    refine wpH_execs_nil (wpH_execs_cons (retE (Ev.itemB (Ev.exps D₂) (Ev.mod (Ev.add (Ev.itemB (Ev.logs D₂) (Ev.locI F₂) hx.1 (by omega) (sz_of _ (by omega))) (Ev.itemB (Ev.logs D₂) (Ev.locI F₂) hy.1 (by omega) (sz_of _ (by omega)))) (Ev.fc D₂) (by decide)) r.1 (by omega) (sz_of _ (by omega))) fun v h₃ k₃ hv => q _ _ ((k₁.trans k₂).trans k₃) fun h₄ k₄ => ?_))
    rw [mulT, if_neg (by simpa using e)]
    exact hv _ k₄
end
end Mine
namespace Mine
open PySem PySem.W PyProof.Rows PySem.Calls
open Sem (wp)
section
variable {prog : Program} {w : World} {s : Shared} {A : Around} {env : Env} {h : Heap} {B : Addr → Option Obj} {L : Addr} {l : List (Str × Value)} {N : List (Addr × Obj)} {X X' : Value → Heap → Prop}
theorem wpH_noted {α : Type} {m : Sem α} {Q : α → Heap → Prop} (x : wpH (model prog w) s A m Q X' h) (hX : ∀ e h', X' e h' → wpH (model prog w) s A (noteFrame e env) (fun _ h'' => X e h'') X h') :
    wpH (model prog w) s A (m.onRaise fun x => do noteFrame x env; theTreesLotGoes x) Q X h :=
  wpH_onRaise (wpH_mono x (fun _ _ q => q) fun e h' q => wpH_bind (wpH_post (hX e h' q) fun _ h'' q => wpH_any fun tk => wpAny_theTreesLotGoes ⟨h'', tk, rfl, q⟩))
def backH (M : Model) (s : Shared) (A : Around) (env : Env) (X : Value → Heap → Prop) (e : Value) (h' : Heap) : Prop := wpH M s A (do
    if (← field e 1) == .none then unsupported "frame.own-activation:exception-without-traceback"
    setFlight e env.frame) (fun _ h'' => X e h'') X h'
theorem wpH_runOwn {c : Code} {Q : Flow → Heap → Prop}
    (hc : codeH (model prog w) s A c (fun r h' => match r with | .ok f => Q f h' | .error e => backH (model prog w) s A env X e h') h) :
    wpH (model prog w) s A (runOwn c env) Q X h := by
  unfold runOwn
  refine wpH_onRaise (wpH_run (codeH_mono hc fun r h' q => ?_))
  cases r <;> exact q
theorem codeH_for {target : Expr} {it : Value} {body : List Stmt} {R : Result → Heap → Prop} (I : Nat → Heap → Prop) (n : Nat)
    (step : ∀ k h, k < n → I k h → wpH (model prog w) s A (pyNext it) (fun r h₁ => ∃ v, r = some v ∧ wpH (model prog w) s A (letOwnedTupleGo target it v) (fun _ h₂ => wpH (model prog w) s A (assign target env v) (fun _ h₃ =>
      wpH (model prog w) s A (execs body env) (fun f h₄ => f = .next ∧ I (k + 1) h₄) X' h₃) noX h₂) noX h₁) noX h)
    (done : ∀ h, I n h → wpH (model prog w) s A (pyNext it) (fun r h₁ => r = none ∧ R (.ok .next) h₁) noX h)
    (hX : ∀ e h', X' e h' → wpH (model prog w) s A (noteFrame e env) (fun _ h'' => R (.error e) h'') (fun e' h'' => R (.error e') h'') h')
    (h0 : I 0 h) : codeH (model prog w) s A (.forLoop target it body [] env) R h := by
  refine codeH_loop rfl (fun m h => ∃ k, k ≤ n ∧ m = n - k ∧ I k h) (fun m h hI => ?_) n ⟨0, Nat.zero_le _, rfl, h0⟩
  obtain ⟨k, hk, rfl, hI⟩ := hI
  show wpH _ _ A ((forTurn target it body [] env).onRaise (fun x => do noteFrame x env; theTreesLotGoes x)) _ _ h
  refine wpH_noted (X' := X') ?_ hX
  simp only [forTurn]
  refine wpH_bind (wpH_standAt (wpH_bind (wpH_onRaise ?_)))
  by_cases hn : k < n
  · refine wpH_mono (step k h hn hI) (fun r h₁ ⟨v, e, q⟩ => ?_) fun _ _ q => q.elim
    subst e
    refine wpH_bind (wpH_mono q (fun _ h₂ q => wpH_bind (wpH_mono q (fun _ h₃ q => wpH_bind (wpH_post q fun f h₄ q => ?_)) fun _ _ q => q.elim)) fun _ _ q => q.elim)
    obtain ⟨rfl, q⟩ := q
    exact wpH_pure (.inl ⟨rfl, n - (k + 1), by omega, k + 1, by omega, rfl, q⟩)
  · obtain rfl : k = n := by omega
    refine wpH_mono (done h hI) (fun r h₁ ⟨e, q⟩ => ?_) fun _ _ q => q.elim
    subst e
    refine wpH_pure (.inr ⟨rfl, codeH_of_tree ?_⟩)
    show wpH _ _ A (do return PySem.Fin.done (← (execs [] env).onRaise (fun x => do noteFrame x env; theTreesLotGoes x))) _ _ _
    exact wpH_bind (wpH_onRaise (wpH_execs_nil (wpH_pure q)))
/-- for over a fresh range -/
abbrev rgIt (a n : Int) : Obj := { cls := .type "range_iterator", dict := none, data := .fields #[rawInt a, rawInt n, rawInt 1], slots := #[] }
theorem updN_head (a : Addr) (o o' : Obj) (N : List (Addr × Obj)) : updN a o' ((a, o) :: N) = (a, o') :: N := by simp [updN]
theorem exec_for_range {x : Str} {px pos : Pos} {iter : Expr} {body : List Stmt} {Q : Flow → Heap → Prop} {a : Int} {n : Nat} (F : Fra B L l N h) (hh : A.handled = none)
    (y : Ev (model prog w) s A env h iter (fun v h' => ∃ r t u t', v = .ref r ∧ h'.get? r = some { cls := .type "range", dict := none, data := .fields #[.int a t, .int (a + n) u, .int 1 t'], slots := #[] }))
    (ha : -(2 ^ 61) ≤ a ∧ a < 2 ^ 61) (hn : n < 2 ^ 61)
    (J : Nat → List (Str × Value) → List (Addr × Obj) → Prop) (h0 : J 0 l N)
    (step : ∀ k l₁ N₁ B' t h₁, k < n → J k l₁ N₁ → (∀ b o, B b = some o → B' b = some o) → Fra B' L (setL x (.int (a + k) t) l₁) N₁ h₁ →
      wpH (model prog w) s A (execs body env) (fun f h₂ => f = .next ∧ ∃ l₂ N₂, J (k + 1) l₂ N₂ ∧ Fra B' L l₂ N₂ h₂) noX h₁)
    (q : ∀ l₁ N₁ h₁, J n l₁ N₁ → Fra B L l₁ N₁ h₁ → Q .next h₁)
    (hs : ∀ x, foldedSetIterable iter env x = pure x := by intro _; rfl) (hL : env.locals = L := by rfl) (hl : env.kindOf x = some .local := by rfl) (hk : env.scope.kind = .function := by rfl) :
    wpH (model prog w) s A (exec (.For (.Name x px) iter body [] pos) env) Q X h := by
  rw [exec_For]
  refine wpH_bind (wpH_standAt (wpH_bind (y.wp fun v h₁ k₁ hv => wpH_bind (wpH_of_eq (hs v) (wpH_pure (wpH_bind (wpH_standAt (wpH_bind (wpH_holding ?_)))))))))
  obtain ⟨r, t, u, t', rfl, hr⟩ := hv _ Keep.rfl
  have hsz : Builtin.Range.rangeSize a (a + n) 1 = n := by rw [rangeSize_one]; split <;> omega
  refine wpH_any fun tk => wpAny_pyIter_range (s := stt s h₁ tk) hr (small_one (by omega) (by omega) (by omega) (by omega)) ⟨_, _, rfl, ?_⟩
  rw [hsz]
  have F₂ := (F.keeps k₁).fresh (h' := h₁.push (rgIt a n)) (fun b o e => Heap.get?_push_of_some _ e) (a := h₁.objs.size) (o := rgIt a n) (Heap.get?_none_of_le (Nat.le_refl _)) (Heap.get?_push_size _ rfl)
  have hB : B h₁.objs.size = none := (F₂.apart _ (List.mem_cons_self ..)).1
  show wpH _ _ _ (runOwn (.forLoop (.Name x px) (.ref h₁.objs.size) body [] env) env) _ _ (h₁.push (rgIt a n))
  refine wpH_runOwn (codeH_for (X' := noX) (fun k h' => ∃ l₁ N₁, J k l₁ N₁ ∧ Fra B L l₁ ((h₁.objs.size, rgIt (a + k) (n - k)) :: N₁) h') n ?_ ?_ (fun _ _ q => q.elim) ⟨l, N, h0, by simpa using F₂⟩)
  · rintro k h₃ hkn ⟨l₁, N₁, hJ, F₃⟩
    have hit := F₃.news _ (List.mem_cons_self ..)
    refine wpH_any fun tk => wpAny_pyNext_range_item (s := stt s h₃ tk) hit (by omega) fun h₄ hit₄ sb => ⟨h₄, _, rfl, _, rfl, ?_⟩
    refine wpH_of_eq (by rfl) (wpH_pure ?_)
    have F₄ := F₃.upd sb hit₄ (List.mem_cons_self ..)
    rw [updN_head] at F₄
    have F₅ := F₄.freeze
    rw [PySem.assign_Name]
    refine wpH_bind (wpH_standAt (wpH_bindName (wpH_store F₅ (fun h₅ _ F₆ => wpH_mono (step k l₁ N₁ _ _ h₅ hkn hJ (fun b o e => ?_) F₆) (fun f h₆ ⟨hf, l₂, N₂, hJ₂, F₇⟩ => ⟨hf, l₂, N₂, hJ₂, ?_⟩) fun _ _ q => q) hL hl hk)))
    · have : b ≠ h₁.objs.size := fun z => by rw [z, hB] at e; cases e
      simp only [this, if_false]; exact e
    · have := F₇.melt hB
      rw [show a + (k : Int) + 1 = a + ((k + 1 : Nat) : Int) by omega, show (n : Int) - k - 1 = n - ((k + 1 : Nat) : Int) by omega] at this
      exact this
  · rintro h₃ ⟨l₁, N₁, hJ, F₃⟩
    have hit := F₃.news _ (List.mem_cons_self ..)
    refine wpH_any fun tk => wpAny_pyNext_range_end (s := stt s h₃ tk) hh hit (by omega) fun h₄ eb => ⟨h₄, _, rfl, rfl, q l₁ N₁ h₄ hJ ?_⟩
    have nd := F₃.nodup
    rw [List.map_cons, List.nodup_cons] at nd
    have F₄ := F₃.tail
    have kp : ∀ b o, b ≠ h₁.objs.size → h₃.get? b = some o → h₄.get? b = some o := eb
    have hLn : L ≠ h₁.objs.size := Ne.symm (F₃.apart _ (List.mem_cons_self ..)).2
    refine ⟨let ⟨m, ⟨o, es, ep, e, r⟩, y⟩ := F₄.ns; ⟨m, ⟨o, es, ep, kp _ _ hLn e, r⟩, y⟩, fun b o e => kp b o (fun z => by rw [z, hB] at e; cases e) (F₄.keep b o e), fun p hp => kp _ _ (fun z => nd.1 (List.mem_map.mpr ⟨p, hp, z⟩)) (F₄.news p hp), F₄.apart, F₄.own, nd.2⟩
end
end Mine
namespace Mine
open PySem PySem.W PyProof.Rows PySem.Calls
open Sem (wp)
theorem bitXor_nat (x y : Nat) : Builtin.bitXor (x : Int) (y : Int) = ((x ^^^ y : Nat) : Int) := by
  rw [bitXor_and]
  have e : Builtin.bitAnd (x : Int) (y : Int) = ((x &&& y : Nat) : Int) := by
    simp [Builtin.bitAnd]
  rw [e]
  have := xor_add_and x y
  omega
theorem Tab.log {lg ex : Array UInt8} (T : Tab lg ex) {x : Nat} (h0 : x ≠ 0) (h : x < 256) : (lg.getD x 0).toNat = glog x := by
  obtain ⟨a, b⟩ := glog_spec h0 h
  have := T.l _ a
  rwa [b] at this
theorem mulT_eq {lg ex : Array UInt8} (T : Tab lg ex) {x y : Nat} (hx : x < 256) (hy : y < 256) : mulT lg ex x y = (gm x y : Nat) := by
  unfold mulT gm
  by_cases h : x = 0 ∨ y = 0
  · rw [if_pos (by omega), if_pos h]; rfl
  · rw [if_neg (by omega), if_neg h]
    simp only [Int.toNat_natCast]
    rw [T.log (by omega) hx, T.log (by omega) hy]
    have e : ((glog x : Int) + (glog y : Int)).fmod 255 = (((glog x + glog y) % 255 : Nat) : Int) := by
      rw [Int.fmod_eq_emod_of_nonneg _ (by omega)]; omega
    rw [e, Int.toNat_natCast, T.e _ (by omega)]
    congr 2
    omega
section
variable {prog : Program} {w : World} {s : Shared} {A : Around} {env : Env} {h : Heap} {fa : Nat → Addr} {la ea : Addr} {lg ex : Array UInt8} {mg mb : Str → Option Value}
theorem Con.mono {f : Addr} {vs : List Value} {V V' : Value → Heap → Prop} (x : Con (model prog w) s A f vs h V) (hV : ∀ v h', Keep h h' → V v h' → V' v h') : Con (model prog w) s A f vs h V' :=
  fun Q X q => x Q X fun v h₂ k hv => q v h₂ k fun h₃ k₃ => hV v h₃ (k.trans k₃) (hv h₃ k₃)
theorem con_gm (D : Md fa la ea lg ex mg mb h) (R : Room A 1) {x y : Nat} {t u : Tok} (hx : x < 256) (hy : y < 256) : Con (model prog w) s A (fa 5) [.int x t, .int y u] h (IsI (gm x y : Nat)) := by
  have := con_mul (prog := prog) (w := w) (s := s) (t := t) (u := u) D R (x := x) (y := y) (by omega) (by omega)
  rwa [mulT_eq D.tab hx hy] at this
theorem con_sub (D : Md fa la ea lg ex mg mb h) (R : Room A 1) {x y : Nat} {t u : Tok} : Con (model prog w) s A (fa 4) [.int x t, .int y u] h (IsI (x ^^^ y : Nat)) := by
  refine con_of (names := ["x", "y"]) D R (by decide) (fun _ _ _ => by rfl) (by decide) (locs (by rfl)) fun L pm c doc h₁ Q X D₁ k₁ F _ q => ?_
  refine wpH_execs_cons (retE (Ev.xor (Ev.locI F) (Ev.locI F)) fun v h₃ k₃ hv => q _ _ (k₁.trans k₃) fun h₄ k₄ => ?_)
  rw [← bitXor_nat]; exact hv _ k₄
theorem bits_small {a : Int} (h0 : 0 ≤ a) (h : a < 2 ^ 63) : Builtin.Int.intBits a ≤ 64 := by
  have : a.natAbs < 2 ^ 63 := by omega
  unfold Builtin.Int.intBits
  have e : a.natAbs.log2 < 63 := by
    by_cases hz : a.natAbs = 0
    · rw [hz]; decide
    · exact (Nat.log2_lt hz).mpr this
  first | omega | (split <;> omega)
theorem con_pow (D : Md fa la ea lg ex mg mb h) (R : Room A 1) {e : Int} {t u : Tok} : Con (model prog w) s A (fa 7) [.int 2 t, .int e u] h (IsI (gexp (e.fmod 255).toNat : Nat)) := by
  have hl := D.tab.lsz
  have he := D.tab.esz
  refine con_of (names := ["x", "power"]) D R (by decide) (fun _ _ _ => by rfl) (by decide) (locs (by rfl)) fun L pm c doc h₁ Q X D₁ k₁ F _ q => ?_
  have l2 : (lg.getD (2 : Int).toNat 0).toNat = 1 := D.tab.l 1 (by decide)
  have r := fmod_range (((lg.getD (2 : Int).toNat 0).toNat : Int) * e) (n := 255) (by omega)
  refine wpH_execs_cons (retE (Ev.itemB (Ev.exps D₁) (Ev.mod (Ev.mul (Ev.itemB (Ev.logs D₁) (Ev.locI F) (by decide) (by rw [hl]; decide) (sz_of _ (by omega))) (Ev.locI F) (.of_left (by rw [l2]; decide))) (Ev.fc D₁) (by decide)) r.1 (by omega) (sz_of _ (by omega))) fun v h₃ k₃ hv => q _ _ (k₁.trans k₃) fun h₄ k₄ => ?_)
  have := hv _ k₄
  rw [l2] at this
  have r' := fmod_range e (n := 255) (by omega)
  rw [show ((1 : Nat) : Int) * e = e by omega, D.tab.e _ (by omega), Nat.mod_eq_of_lt (by omega)] at this
  exact this
end
end Mine
namespace Mine
open PySem PySem.W PyProof.Rows PySem.Calls
open Sem (wp)
abbrev IsR (a b : Int) : Value → Heap → Prop := fun v h' => ∃ r t u t', v = .ref r ∧ h'.get? r = some { cls := .type "range", dict := none, data := .fields #[.int a t, .int b u, .int 1 t'], slots := #[] }
/-- the octet at a place -/
def bAt (b : Array UInt8) (k : Nat) : Nat := (b.getD k 0).toNat
theorem bAt_lt (b : Array UInt8) (k : Nat) : bAt b k < 256 := UInt8.toNat_lt _
section
variable {prog : Program} {w : World} {s : Shared} {A : Around} {env : Env} {h : Heap} {fa : Nat → Addr} {la ea : Addr} {lg ex : Array UInt8} {mg mb : Str → Option Value}
theorem Ev.range1 {x : Str} {e : Expr} {p pos : Pos} {n : Int} (y : Ev (model prog w) s A env h (.Name x p) (Is (.type "range"))) (z : Ev (model prog w) s A env h e (IsI n))
    (he : starEach [e] env = (false, eval e env) :: starEach [] env := by rfl) (hne : ∀ pos, (backTo pos (starEach [e] env)).all (fun x => !x.1) = true := by intro _; rfl) : Ev (model prog w) s A env h (.Call (.Name x p) [e] [] pos) (IsR 0 n) :=
  Ev.call y rfl (EvL.cons z EvL.nil he) (fun vs h₁ _ hvs Q X q => by
    obtain ⟨v, r, rfl, ⟨t, rfl⟩, rfl⟩ := hvs
    refine wpH_any fun tk => call_range_1 (s := stt s h₁ tk) ⟨_, _, rfl, q _ _ (fun b o e => Heap.get?_push_of_some _ e) fun h₃ k₃ => ⟨_, _, _, _, rfl, k₃ _ _ (Heap.get?_push_size _ rfl)⟩⟩) hne
theorem Ev.range2 {x : Str} {e e' : Expr} {p pos : Pos} {n m : Int} (y : Ev (model prog w) s A env h (.Name x p) (Is (.type "range"))) (z : Ev (model prog w) s A env h e (IsI n)) (z' : Ev (model prog w) s A env h e' (IsI m))
    (he : starEach [e, e'] env = (false, eval e env) :: starEach [e'] env := by rfl) (he' : starEach [e'] env = (false, eval e' env) :: starEach [] env := by rfl) (hne : ∀ pos, (backTo pos (starEach [e, e'] env)).all (fun x => !x.1) = true := by intro _; rfl) : Ev (model prog w) s A env h (.Call (.Name x p) [e, e'] [] pos) (IsR n m) :=
  Ev.call y rfl (EvL.cons z (EvL.cons z' EvL.nil he') he) (fun vs h₁ _ hvs Q X q => by
    obtain ⟨v, r, rfl, ⟨t, rfl⟩, v', r', rfl, ⟨t', rfl⟩, rfl⟩ := hvs
    refine wpH_any fun tk => call_range_2 (s := stt s h₁ tk) ⟨_, _, rfl, q _ _ (fun b o e => Heap.get?_push_of_some _ e) fun h₃ k₃ => ⟨_, _, _, _, rfl, k₃ _ _ (Heap.get?_push_size _ rfl)⟩⟩) hne
theorem Ev.xr {p : Pos} (D : Md fa la ea lg ex mg mb h) (hg : env.globals = mainGlobals := by rfl) (hk : env.scope.kind = .function := by rfl) (hl : env.kindOf "xrange" = some .globalImplicit := by rfl) : Ev (model prog w) s A env h (.Name "xrange" p) (Is (.type "range")) :=
  Ev.glob D.gl D.xr hg hk hl
theorem Ev.len' {p : Pos} (D : Md fa la ea lg ex mg mb h) (hg : env.globals = mainGlobals := by rfl) (hb : env.builtins = builtinsNs := by rfl) (hk : env.scope.kind = .function := by rfl) (hl : env.kindOf "len" = some .globalImplicit := by rfl) : Ev (model prog w) s A env h (.Name "len" p) (Is (.builtin "len")) :=
  Ev.blt D.gl (D.fr _ (by decide)) (by decide +kernel) hg hb hk hl
/-- the place of a bytearray local -/
theorem Ev.locB {B : Addr → Option Obj} {L : Addr} {l : List (Str × Value)} {N : List (Addr × Obj)} {x : Str} {pos : Pos} {a : Addr} {b : Array UInt8} (F : Fra B L l N h) (ha : h.get? a = some (ba b)) (hv : l.lookup x = some (.ref a) := by rfl) (hL : env.locals = L := by rfl) (hk : env.scope.kind = .function := by rfl)
    (hl : env.kindOf x = some .local := by rfl) (hd : (x == ("__debug__" : Str)) = false := by decide) : Ev (model prog w) s A env h (.Name x pos) (IsB b) := (Ev.loc F hv hL hk hl hd).mono fun v h' k e => ⟨a, e, k _ _ ha⟩
theorem for_range {B : Addr → Option Obj} {L : Addr} {X : Value → Heap → Prop} {x : Str} {px pos : Pos} {iter : Expr} {body : List Stmt} {Q : Flow → Heap → Prop} {a b : Int} {n : Nat}
    {S : Type} (lo : Nat → S → List (Str × Value)) (no : Nat → S → List (Addr × Obj)) (P : Nat → S → Prop) (σ₀ : S) (h0 : P 0 σ₀) (F : Fra B L (lo 0 σ₀) (no 0 σ₀) h) (hh : A.handled = none)
    (y : Ev (model prog w) s A env h iter (IsR a b)) (hb : b = a + n) (ha : -(2 ^ 61) ≤ a ∧ a < 2 ^ 61) (hn : n < 2 ^ 61)
    (step : ∀ k σ B' t h₁, k < n → P k σ → (∀ b o, B b = some o → B' b = some o) → Fra B' L (setL x (.int (a + k) t) (lo k σ)) (no k σ) h₁ →
      wpH (model prog w) s A (execs body env) (fun f h₂ => f = .next ∧ ∃ σ', P (k + 1) σ' ∧ Fra B' L (lo (k + 1) σ') (no (k + 1) σ') h₂) noX h₁)
    (q : ∀ σ h₁, P n σ → Fra B L (lo n σ) (no n σ) h₁ → Q .next h₁)
    (hs : ∀ x, foldedSetIterable iter env x = pure x := by intro _; rfl) (hL : env.locals = L := by rfl) (hl : env.kindOf x = some .local := by rfl) (hk : env.scope.kind = .function := by rfl) :
    wpH (model prog w) s A (exec (.For (.Name x px) iter body [] pos) env) Q X h :=
  exec_for_range F hh (hb ▸ y) ha hn (fun k l N => ∃ σ, P k σ ∧ l = lo k σ ∧ N = no k σ) ⟨σ₀, h0, rfl, rfl⟩ (fun k l₁ N₁ B' t h₁ hk ⟨σ, p, e1, e2⟩ hB F₁ => by
    subst e1 e2
    exact wpH_post (step k σ B' t h₁ hk p hB F₁) fun f h₂ ⟨hf, σ', p', F₂⟩ => ⟨hf, _, _, ⟨σ', p', rfl, rfl⟩, F₂⟩)
    (fun l₁ N₁ h₁ ⟨σ, p, e1, e2⟩ F₁ => by subst e1 e2; exact q σ h₁ p F₁) hs hL hl hk
theorem Ev.xorN {l r : Expr} {pos : Pos} {x y : Nat} (u : Ev (model prog w) s A env h l (IsI x)) (v : Ev (model prog w) s A env h r (IsI y)) : Ev (model prog w) s A env h (.BinOp l .BitXor r pos) (IsI (x ^^^ y : Nat)) := by
  rw [← bitXor_nat]; exact u.xor v
theorem Ev.gm {a b : Expr} {p pos : Pos} {x y : Nat} (D : Md fa la ea lg ex mg mb h) (R : Room A 1) (u : Ev (model prog w) s A env h a (IsI x)) (v : Ev (model prog w) s A env h b (IsI y)) (hx : x < 256) (hy : y < 256)
    (he : starEach [a, b] env = (false, eval a env) :: starEach [b] env := by rfl) (he' : starEach [b] env = (false, eval b env) :: starEach [] env := by rfl) (hln : ∀ pos, (backTo pos (starEach [a, b] env)).length = 2 := by intro _; rfl) (hne : ∀ pos, (backTo pos (starEach [a, b] env)).all (fun x => !x.1) = true := by intro _; rfl)
    (hg : env.globals = mainGlobals := by rfl) (hk : env.scope.kind = .function := by rfl) (hl : env.kindOf "gf_mul" = some .globalImplicit := by rfl) : Ev (model prog w) s A env h (.Call (.Name "gf_mul" p) [a, b] [] pos) (IsI (gm x y : Nat)) := by
  obtain ⟨o, dV, pm', c', doc', f1, f2, f3, f4⟩ := (D.fn 5 (by decide)).2.at'
  refine Ev.fn (Ev.glob D.gl (D.fn 5 (by decide)).1 hg hk hl) f1 f2 (EvL.cons u (EvL.cons v EvL.nil he') he) (fun vs h₄ k₄ hvs => ?_) (by simp) hln hne
  obtain ⟨v, r, rfl, ⟨t1, rfl⟩, v', r', rfl, ⟨t2, rfl⟩, rfl⟩ := hvs
  exact con_gm (D.keeps k₄) R hx hy
theorem Ev.itemN {x : Str} {p pos : Pos} {i : Expr} {b : Array UInt8} {k : Int} {n : Nat} (y : Ev (model prog w) s A env h (.Name x p) (IsB b)) (z : Ev (model prog w) s A env h i (IsI k)) (e : k = n) (h1 : n < b.size) (hb : b.size ≤ 1000)
    (hs : ∀ o u, subscripted i false o u = operate [o, u] (getItem o u) := by intros; with_unfolding_all rfl) : Ev (model prog w) s A env h (.Subscript (.Name x p) i pos) (IsI (bAt b n : Nat)) := by
  subst e; exact Ev.itemB y z (by omega) (by omega) (sz_of _ hb) hs
/-- Horner's rule on the octets -/
def hor (b : Array UInt8) (x : Nat) : Nat → Nat
  | 0 => bAt b 0
  | k + 1 => gm (hor b x k) x ^^^ bAt b (k + 1)
theorem hor_lt (b : Array UInt8) (x : Nat) : ∀ k, hor b x k < 256
  | 0 => bAt_lt _ _
  | k + 1 => xor_lt (gm_lt _ _) (bAt_lt _ _)
theorem con_eval (D : Md fa la ea lg ex mg mb h) (R : Room A 2) {a : Addr} {b : Array UInt8} {x : Nat} {t : Tok} (ha : h.get? a = some (ba b)) (hb : 0 < b.size) (hb' : b.size ≤ 1000) (hx : x < 256) :
    Con (model prog w) s A (fa 12) [.ref a, .int x t] h (IsI (hor b x (b.size - 1) : Nat)) := by
  refine con_of (names := ["poly", "x"]) D R (by decide) (fun _ _ _ => by rfl) (by decide) (locs (by rfl)) fun L pm c doc h₁ Q X D₁ k₁ F R₁ q => ?_
  have ha₁ := k₁ _ _ ha
  refine wpH_execs_cons (asgI F (Ev.itemB (Ev.locB F ha₁) Ev.int (by decide) (by omega) (sz_of _ hb')) fun t₂ h₂ F₂ => ?_)
  have D₂ := D.keeps F₂.keep
  have ha₂ := F₂.keep _ _ ha
  refine wpH_execs_cons (for_range (n := b.size - 1) (a := 1) (S := Tok) (fun k t' => [("x", .int x t), ("poly", .ref a), ("y", .int (hor b x k : Nat) t')]) (fun _ _ => []) (fun _ _ => True) t₂ trivial (F₂.weak ⟨rfl, rfl, rfl, trivial⟩) R₁.hd (Ev.range2 (Ev.xr D₂) Ev.int (Ev.lenB (Ev.len' D₂) (Ev.locB F₂ ha₂) (sz_of _ hb'))) (by omega) (by decide) (by omega) ?_ ?_)
  · intro k t' B' ti h₃ hk _ hB F₃
    have D₃ := D.keeps (fun b o e => F₃.keep b o (hB b o e))
    have ha₃ := F₃.keep _ _ (hB _ _ ha)
    exact wpH_execs_cons (asgI F₃ (Ev.xorN (Ev.gm D₃ (R₁.le (by decide)) (Ev.locI F₃) (Ev.locI F₃) (hor_lt _ _ _) hx) (Ev.itemN (Ev.locB F₃ ha₃) (Ev.locI F₃) (n := k + 1) (by omega) (by omega) hb')) fun t₅ h₅ F₅ => wpH_execs_nil ⟨rfl, t₅, trivial, F₅.weak ⟨rfl, rfl, rfl, trivial⟩⟩)
  · intro t' h₃ _ F₃
    refine wpH_execs_cons (retE (Ev.locI F₃) fun v h₄ k₄ hv => q _ _ (Keep.trans F₃.keep k₄) hv)
end
end Mine
namespace Mine
open PySem PySem.W PyProof.Rows PySem.Calls
open Sem (wp)
/-! ## Names that a comprehension keeps (cells) -/
abbrev cellO (v : Option Value) : Obj := { cls := .type "cell", data := .cell v }
def cellsN (n : Nat) : List (Str × NameKind) → List (Addr × Obj)
  | [] => []
  | (_, k) :: r => if k == .cell then (n, cellO none) :: cellsN (n + 1) r else cellsN n r
theorem cellsN_ge : ∀ (names : List (Str × NameKind)) (n : Nat), ∀ p ∈ cellsN n names, n ≤ p.1
  | [], _, _, hp => by cases hp
  | (_, k) :: r, n, p, hp => by
    unfold cellsN at hp
    split at hp
    · rcases List.mem_cons.mp hp with rfl | hp
      · exact Nat.le_refl _
      · have := cellsN_ge r (n + 1) p hp; omega
    · exact cellsN_ge r n p hp
theorem cellsN_nodup : ∀ (names : List (Str × NameKind)) (n : Nat), ((cellsN n names).map (·.1)).Nodup
  | [], _ => List.nodup_nil
  | (_, k) :: r, n => by
    unfold cellsN
    split
    · rw [List.map_cons, List.nodup_cons]
      refine ⟨fun hm => ?_, cellsN_nodup r (n + 1)⟩
      obtain ⟨p, hp, e⟩ := List.mem_map.mp hm
      have := cellsN_ge r (n + 1) p hp
      have e' : p.1 = n := e
      rw [e'] at this
      exact Nat.not_succ_le_self n this
    · exact cellsN_nodup r n
theorem cellsN_get : ∀ (names : List (Str × NameKind)) (h : Heap), ∀ p ∈ cellsN h.objs.size names, (pushCells h names).get? p.1 = some p.2
  | [], _, _, hp => by cases hp
  | (_, k) :: r, h, p, hp => by
    unfold cellsN at hp
    unfold pushCells
    split at hp
    · rename_i hk
      rw [if_pos hk]
      rcases List.mem_cons.mp hp with rfl | hp
      · exact pushCells_keeps r _ _ _ (Heap.get?_push_size _ rfl)
      · exact cellsN_get r (h.push (cellO none)) p (by rw [Heap.size_push]; exact hp)
    · rename_i hk
      rw [if_neg hk]
      exact cellsN_get r h p hp
def stepB (env : Env) : List (Str × Value) → List (Str × Value) → List (Addr × Obj) → List (Str × Value) × List (Addr × Obj)
  | [], l, N => (l, N)
  | (n, v) :: r, l, N => if env.kindOf n = some .local then stepB env r (setL n v l) N else stepB env r l (updN ((env.cells.lookup n).getD 0) (cellO (some v)) N)
section
variable {prog : Program} {w : World} {s : Shared} {A : Around} {env : Env} {h : Heap} {B : Addr → Option Obj} {L : Addr} {l : List (Str × Value)} {N : List (Addr × Obj)} {X : Value → Heap → Prop}
theorem wpH_storeCell {x : Str} {v : Value} {c : Addr} {v₀ : Option Value} {Q : Unit → Heap → Prop} (F : Fra B L l N h) (hN : (c, cellO v₀) ∈ N) (q : ∀ h', Heap.SameBut c h h' → Fra B L l (updN c (cellO (some v)) N) h' → Q () h')
    (hc : env.cells.lookup x = some c) (hl : env.kindOf x = some .cell) (hk : env.scope.kind = .function) : wpH (model prog w) s A (storeName env x v) Q X h := by
  have ho := F.news _ hN
  refine wpH_any fun tk => ?_
  unfold storeName
  simp only [hl, hk]
  refine wpAny_bind (wpAny_cellOf hc ?_)
  unfold cellSet
  refine wpAny_bind (wpAny_load (s := stt s h tk) ho ?_)
  refine wpAny_update (s := stt s h tk) ho ⟨_, _, rfl, q _ (Heap.SameBut.update ..) (F.upd (Heap.SameBut.update ..) (Heap.get?_update_self _ ho rfl) (List.mem_map.mpr ⟨_, hN, rfl⟩))⟩
theorem mem_updN_self {a : Addr} {o : Obj} : ∀ {N : List (Addr × Obj)}, a ∈ N.map (·.1) → (a, o) ∈ updN a o N
  | [], hp => by cases hp
  | (b, q) :: r, hp => by
    unfold updN
    split
    · exact List.mem_cons_self ..
    · rename_i e
      rcases List.mem_cons.mp hp with hp | hp
      · exact absurd hp.symm e
      · exact List.mem_cons_of_mem _ (mem_updN_self hp)
theorem mem_updN_other {a : Addr} {o : Obj} {p : Addr × Obj} : ∀ {N : List (Addr × Obj)}, p ∈ N → p.1 ≠ a → p ∈ updN a o N
  | [], hp, _ => by cases hp
  | (b, q) :: r, hp, hn => by
    unfold updN
    split
    · rename_i e
      rcases List.mem_cons.mp hp with rfl | hp
      · exact absurd e hn
      · exact List.mem_cons_of_mem _ hp
    · rcases List.mem_cons.mp hp with rfl | hp
      · exact List.mem_cons_self ..
      · exact List.mem_cons_of_mem _ (mem_updN_other hp hn)
theorem wpH_bindParams (f : Str × Value → PUnit → Sem (ForInStep PUnit)) (hf : ∀ n v u, f (n, v) u = (do storeName env n v; pure (.yield ⟨⟩))) (hk : env.scope.kind = .function) (hL : env.locals = L) :
    ∀ (binds : List (Str × Value)) (l : List (Str × Value)) (N : List (Addr × Obj)) (h : Heap) (Q : PUnit → Heap → Prop), Fra B L l N h →
      (∀ x ∈ binds, env.kindOf x.1 = some .local ∨ (env.kindOf x.1 = some .cell ∧ ∃ c, env.cells.lookup x.1 = some c ∧ ∃ v, (c, cellO v) ∈ N)) →
      (∀ h', Fra B L (stepB env binds l N).1 (stepB env binds l N).2 h' → Q ⟨⟩ h') → wpH (model prog w) s A (forIn binds ⟨⟩ f) Q X h
  | [], l, N, h, Q, F, _, q => by rw [List.forIn_nil]; exact wpH_pure (q h F)
  | (n, v) :: r, l, N, h, Q, F, hb, q => by
    rw [List.forIn_cons, hf]
    unfold stepB at q
    rcases hb _ (List.mem_cons_self ..) with hl | ⟨hl, c, hc, v₀, hN⟩
    · rw [if_pos hl] at q
      refine wpH_bind (wpH_bind (wpH_store F (fun h' _ F' => wpH_pure ?_) hL hl hk))
      exact wpH_bindParams f hf hk hL r _ _ _ Q F' (fun x hx => hb x (List.mem_cons_of_mem _ hx)) q
    · have hl' : env.kindOf n = some .cell := hl
      rw [if_neg (by rw [hl']; decide), show env.cells.lookup n = some c from hc] at q
      refine wpH_bind (wpH_bind (wpH_storeCell F hN (fun h' _ F' => wpH_pure ?_) hc hl hk))
      refine wpH_bindParams f hf hk hL r _ _ _ Q F' (fun x hx => ?_) q
      rcases hb x (List.mem_cons_of_mem _ hx) with hl | ⟨hl, c', hc', v', hN'⟩
      · exact .inl hl
      · refine .inr ⟨hl, c', hc', ?_⟩
        by_cases e : c' = c
        · subst e; exact ⟨_, mem_updN_self (List.mem_map.mpr ⟨_, hN', rfl⟩)⟩
        · exact ⟨v', mem_updN_other hN' e⟩
theorem callHC {f : Addr} {o : Obj} {fd : FuncData} {body : List Stmt} {args : List Value} {binds : List (Str × Value)} {Q : Value → Heap → Prop}
    (hroom : A.depth < recursionLimit) (ho : h.get? f = some o) (hd : o.data = .func fd) (hlim : h.NoLimit) (hcd : h.CodeRec fd.code fd.qualname) (hbody : fd.body = .stmts body) (hclos : fd.closure = [])
    (hbind : ∀ tk, BindsTo (stt s h tk) fd ⟨args, []⟩ binds)
    (hkind : ∀ L, ∀ x ∈ binds, fd.scope.names.lookup x.1 = some .local ∨ (fd.scope.names.lookup x.1 = some .cell ∧ ∃ c, (cellsFrom (L + 1) fd.scope.names []).lookup x.1 = some c ∧ ∃ v, (c, cellO v) ∈ cellsN (L + 1) fd.scope.names))
    (x : ∀ L h₁, Fra h.get? L (stepB (callEnvC fd L f) binds [] (cellsN (L + 1) fd.scope.names)).1 (stepB (callEnvC fd L f) binds [] (cellsN (L + 1) fd.scope.names)).2 h₁ →
      wpH (model prog w) s (A.deeper (callEnvC fd L f)) (execs body (callEnvC fd L f)) (fun fl h' => Q (match fl with | .ret v => v | _ => .none) h')
      (fun e h' => wpH (model prog w) s (A.deeper (callEnvC fd L f)) (leaving (callEnvC fd L f) e) (fun _ h'' => X e h'') (fun e' h'' => X e' h'') h') h₁)
    (hco : fd.scope.isCoroutine = false := by rfl) (hgen : fd.scope.isGenerator = false := by rfl) (hk : fd.scope.kind = .function := by rfl) : wpH (model prog w) s A (PySem.call (.ref f) args) Q X h := by
  refine wpH_call (codeH_of_tree ?_)
  show wpH _ _ A.in1 (callAny (.ref f) ⟨args, []⟩) _ _ h
  simp only [callAny]
  refine wpH_bind (wpH_any fun tk => wpAny_load ho ⟨h, tk, rfl, ?_⟩)
  obtain ⟨c, oc, vs, tq, hc, hoc, hdc, hq⟩ := hcd
  simp only [hd, callFunction, hco, hgen, hbody, hc, hclos]
  refine wpH_bind (m := field (.ref c) 1) (wpH_any fun tk => wpAny_field hoc hdc hq ⟨h, tk, rfl, wpH_bind (wpH_pure ?_)⟩)
  refine wpH_bind (wpH_any fun tk => hbind tk _ _ _ _ ⟨h, tk, rfl, wpH_bind ?_⟩)
  rw [← hc]
  simp only [newFunctionEnv, Option.isSome_none, Bool.false_eq_true, if_false]
  refine wpH_bind (wpH_any fun tk => wpAny_alloc ⟨_, _, rfl, ?_⟩)
  refine wpH_bind (wpH_any fun tk => wpAny_layCells _ (fun name kind cells => by cases hkc : kind == NameKind.cell <;> simp [hkc]) _ _ _ _ ⟨_, _, rfl, ?_⟩)
  have hsz : (h.push { cls := .type "frame", data := .dict #[] }).objs.size = h.objs.size + 1 := Heap.size_push ..
  dsimp only [stt]
  rw [hsz]
  have kp : Keep h (pushCells (h.push { cls := .type "frame", data := .dict #[] }) fd.scope.names) := fun b o e => pushCells_keeps _ _ b o (Heap.get?_push_of_some _ e)
  have F : Fra h.get? h.objs.size [] (cellsN (h.objs.size + 1) fd.scope.names) (pushCells (h.push { cls := .type "frame", data := .dict #[] }) fd.scope.names) := by
    refine ⟨⟨_, (Heap.Ns.new h (.type "frame")).keeps (pushCells_keeps _ _), fun x v e => by cases e⟩, kp, fun p hp => cellsN_get _ _ p (by rw [Heap.size_push]; exact hp), fun p hp => ?_, Heap.get?_none_of_le (Nat.le_refl _), cellsN_nodup _ _⟩
    have := cellsN_ge _ _ p hp
    exact ⟨Heap.get?_none_of_le (Nat.le_of_succ_le this), fun e => by rw [e] at this; exact Nat.not_succ_le_self _ this⟩
  refine wpH_bind (wpH_bindParams (env := callEnvC fd h.objs.size f) (L := h.objs.size) _ (fun _ _ _ => rfl) hk rfl binds _ _ _ _ F (hkind _) fun h₂ F₂ => wpH_pure ?_)
  refine wpH_bind (wpH_any fun tk => wpAny_enterFrame (hlim.keeps F₂.keep) hroom ⟨_, tk, rfl, wpH_pure ⟨rfl, codeH_of_tree ?_⟩⟩)
  show wpH _ _ (A.deeper (callEnvC fd h.objs.size f)) (do point; match ← (execs body (callEnvC fd h.objs.size f)).onRaise (leaving (callEnvC fd h.objs.size f)) with | .ret v => ret v | _ => ret .none) _ _ h₂
  refine wpH_bind (wpH_point (wpH_bind (wpH_onRaise (wpH_mono (x _ h₂ F₂) (fun fl h' q => ?_) fun _ _ q => q))))
  cases fl <;> exact wpH_pure q
/-- reading a cell's name -/
theorem Ev.cell {x : Str} {pos : Pos} {v : Value} {c : Addr} (F : Fra B L l N h) (hN : (c, cellO (some v)) ∈ N) (hc : env.cells.lookup x = some c := by rfl) (hk : env.scope.kind = .function := by rfl)
    (hl : env.kindOf x = some .cell := by rfl) (hd : (x == ("__debug__" : Str)) = false := by decide) : Ev (model prog w) s A env h (.Name x pos) (Is v) := fun h₁ k Q X q =>
  wpH_any fun tk => wpAny_Name (wpAny_loadName_cell hk hl hc ⟨_, k _ _ (F.news _ hN), rfl⟩ ⟨h₁, tk, rfl, q _ _ Keep.rfl fun _ _ => rfl⟩) hd
theorem Ev.free {x : Str} {pos : Pos} {v : Value} {c : Addr} (hN : h.get? c = some (cellO (some v))) (hc : env.cells.lookup x = some c := by rfl) (hk : env.scope.kind = .function := by rfl)
    (hl : env.kindOf x = some .free := by rfl) (hd : (x == ("__debug__" : Str)) = false := by decide) (hn : (x == ("__classdict__" : Str)) = false := by decide) : Ev (model prog w) s A env h (.Name x pos) (Is v) := fun h₁ k Q X q =>
  wpH_any fun tk => wpAny_Name (wpAny_loadName_free hk hl hc ⟨_, k _ _ hN, rfl⟩ ⟨h₁, tk, rfl, q _ _ Keep.rfl fun _ _ => rfl⟩ hn) hd
end
end Mine
namespace Mine
open PySem PySem.W PyProof.Rows PySem.Calls
open Sem (wp)
/-! ## Sources of a loop, and list comprehensions of ints -/
abbrev liO (vs : List Value) (n : Nat) : Obj := { cls := .type "list", data := .seq vs.toArray n }
structure Srce (prog : Program) (w : World) (s : Shared) (A : Around) (it : Addr) (itP : Nat → Obj → Prop) (n : Nat) (item : Nat → Value → Prop) (so : List (Addr × Obj)) : Prop where
  next : ∀ k h o, k < n → h.get? it = some o → itP k o → (∀ p ∈ so, h.get? p.1 = some p.2) → ∀ (Q : Option Value → Heap → Prop) (X : Value → Heap → Prop), (∀ v h' o', item k v → h'.get? it = some o' → itP (k + 1) o' → Heap.SameBut it h h' → Q (some v) h') → wpH (model prog w) s A (pyNext (.ref it)) Q X h
  done : ∀ h o, h.get? it = some o → itP n o → (∀ p ∈ so, h.get? p.1 = some p.2) → ∀ (Q : Option Value → Heap → Prop) (X : Value → Heap → Prop), (∀ h', (∀ b o, b ≠ it → h.get? b = some o → h'.get? b = some o) → Q none h') → wpH (model prog w) s A (pyNext (.ref it)) Q X h
  self : ∀ h o, h.get? it = some o → itP 0 o → ∀ (Q : Value → Heap → Prop) (X : Value → Heap → Prop), Q (.ref it) h → wpH (model prog w) s A (pyIter (.ref it)) Q X h
theorem Fra.extBut {B : Addr → Option Obj} {L it : Addr} {l : List (Str × Value)} {N : List (Addr × Obj)} {h h' : Heap} {o : Obj} (F : Fra B L l ((it, o) :: N) h) (kp : ∀ b o, b ≠ it → h.get? b = some o → h'.get? b = some o) : Fra B L l N h' := by
  have nd := F.nodup
  rw [List.map_cons, List.nodup_cons] at nd
  have F₄ := F.tail
  have hA := F.apart _ (List.mem_cons_self ..)
  have hLn : L ≠ it := Ne.symm hA.2
  have hB : B it = none := hA.1
  refine ⟨let ⟨m, ⟨o, es, ep, e, r⟩, y⟩ := F₄.ns; ⟨m, ⟨o, es, ep, kp _ _ hLn e, r⟩, y⟩, fun b o e => kp b o (fun z => by rw [z, hB] at e; cases e) (F₄.keep b o e), fun p hp => kp _ _ (fun z => nd.1 (List.mem_map.mpr ⟨p, hp, z⟩)) (F₄.news p hp), F₄.apart, F₄.own, nd.2⟩
def accL (p : Nat → Bool) (f : Nat → Int) : Nat → List Int
  | 0 => []
  | k + 1 => if p k then accL p f k ++ [f k] else accL p f k
theorem accL_len (p : Nat → Bool) (f : Nat → Int) : ∀ k, (accL p f k).length ≤ k
  | 0 => Nat.le_refl _
  | k + 1 => by
    unfold accL
    have := accL_len p f k
    split
    · simp; omega
    · omega
theorem ints_snoc {vs : List Value} {ns : List Int} (h : IntsAre vs ns) (i : Int) (t : Tok) : IntsAre (vs ++ [.int i t]) (ns ++ [i]) := by
  induction h with
  | nil => exact .cons i t .nil
  | cons n t _ ih => exact .cons n t ih
section
variable {prog : Program} {w : World} {s : Shared} {A : Around} {env : Env} {h : Heap} {B : Addr → Option Obj} {X : Value → Heap → Prop}
theorem comp_loop {elt iter : Expr} {x : Str} {px : Pos} {ifs : List Expr} {scope : Scope} {cl : List (Str × Addr)} {pos : Pos} {C D it : Addr} {itP : Nat → Obj → Prop} {n : Nat} {item : Nat → Value → Prop} {so : List (Addr × Obj)} {o₀ : Obj} {l₀ : List (Str × Value)} {R : Result → Heap → Prop}
    (Z : Srce prog w s A it itP n item so) (p : Nat → Bool) (f : Nat → Int) (hn : n ≤ sizeLine) (hso : ∀ q ∈ so, B q.1 = some q.2) (F : Fra B C l₀ [(it, o₀), (D, liO [] 0)] h) (h0 : itP 0 o₀)
    (hx : scope.names.lookup x = some .local) (hkind : scope.kind = .function)
    (tests : ∀ k v B' h', k < n → item k v → (∀ b o, B b = some o → B' b = some o) → Fra B' C [(x, v)] [] h' → ∀ (Q : Bool → Heap → Prop) (X : Value → Heap → Prop), (∀ h'', Keep h' h'' → Q (p k) h'') →
      wpH (model prog w) s A (forIn ifs true fun c r => if r = true then do let ok ← isTrue c (compEnvC scope cl C env) (eval c (compEnvC scope cl C env)); pure (ForInStep.yield ok) else pure (ForInStep.yield r)) Q X h')
    (el : ∀ k v B' h', k < n → p k = true → item k v → (∀ b o, B b = some o → B' b = some o) → Fra B' C [(x, v)] [] h' → Ev (model prog w) s A (compEnvC scope cl C env) h' elt (IsI (f k)))
    (q : ∀ vs m h' l, IntsAre vs (accL p f n) → Fra B C l [(D, liO vs m)] h' → R (.ok .next) h') :
    codeH (model prog w) s A (.compLoop (.ListComp elt [⟨.Name x px, iter, ifs, 0⟩] scope pos) 0 (.ref it) (.ref D) (compEnvC scope cl C env)) R h := by
  refine codeH_loop rfl (fun k' h => ∃ k, k ≤ n ∧ k' = n - k ∧ ∃ vs m l o, IntsAre vs (accL p f k) ∧ itP k o ∧ Fra B C l [(it, o), (D, liO vs m)] h) (fun k' h hI => ?_) n ⟨0, Nat.zero_le _, rfl, [], 0, l₀, o₀, .nil, h0, F⟩
  obtain ⟨k, hk, rfl, vs, m, l, o, hvs, ho, F⟩ := hI
  show wpH _ _ A ((compTurn (.ListComp elt [⟨.Name x px, iter, ifs, 0⟩] scope pos) 0 (.ref it) (.ref D) (compEnvC scope cl C env)).onRaise (fun x => do noteFrame x (compEnvC scope cl C env); theTreesLotGoes x)) _ _ h
  refine wpH_onRaise (wpH_noX ?_)
  rw [compTurn_list]
  have hit := F.news _ (List.mem_cons_self ..)
  have hD := F.news (D, liO vs m) (by simp)
  have hBit : B it = none := (F.apart _ (List.mem_cons_self ..)).1
  have hBD : B D = none := (F.apart (D, liO vs m) (by simp)).1
  have hiD : it ≠ D := by
    have nd := F.nodup
    simp only [List.map_cons, List.map_nil, List.nodup_cons, List.mem_cons, List.not_mem_nil, or_false] at nd
    exact nd.1
  have hs : ∀ q ∈ so, h.get? q.1 = some q.2 := fun q hq => F.keep _ _ (hso q hq)
  refine wpH_bind (wpH_standAt (wpH_bind ?_))
  by_cases hkn : k < n
  · refine Z.next k h o hkn hit ho hs _ _ fun v h₁ o₁ hv hit₁ ho₁ sb₁ => ?_
    refine wpH_bind (wpH_of_eq (by rfl) (wpH_pure ?_))
    have F₁ := F.upd sb₁ hit₁ (List.mem_cons_self ..)
    rw [updN_head] at F₁
    have F₂ := F₁.freeze.freeze
    rw [PySem.assign_Name]
    refine wpH_bind (wpH_bind (wpH_standAt (wpH_bindName (wpH_store F₂ (fun h₂ _ F₃ => ?_) rfl (lookup_relabel_local hx) hkind))))
    have F₄ := F₃.weak (l' := [(x, v)]) ⟨by rw [lookup_setL]; simp, trivial⟩
    have hB' : ∀ b o', B b = some o' → (fun b => if b = D then some (liO vs m) else if b = it then some o₁ else B b) b = some o' := fun b o' e => by
      have h1 : b ≠ D := fun z => by rw [z, hBD] at e; cases e
      have h2 : b ≠ it := fun z => by rw [z, hBit] at e; cases e
      simp only [h1, h2, if_false]; exact e
    refine wpH_bind (tests k v _ h₂ hkn hv hB' F₄ _ _ fun h₃ k₃ => ?_)
    have hmelt : ∀ {h₄ : Heap}, Keep h₃ h₄ → Fra B C [(x, v)] [(it, o₁), (D, liO vs m)] h₄ := fun k₄ => (((F₄.keeps k₃).keeps k₄).melt (B := fun b => if b = it then some o₁ else B b) (by simp only [hiD.symm, if_false]; exact hBD)).melt hBit
    cases hp : p k with
    | false =>
      refine wpH_pure (.inl ⟨rfl, n - (k + 1), by omega, k + 1, by omega, rfl, vs, m, _, o₁, ?_, ho₁, hmelt Keep.rfl⟩)
      show IntsAre vs (if p k then _ else _)
      rw [hp]; exact hvs
    | true =>
      refine wpH_bind (wpH_bind (el k v _ h₃ hkn hp hv hB' (F₄.keeps k₃) h₃ Keep.rfl _ _ fun y h₄ k₄ hy => ?_))
      obtain ⟨t, rfl⟩ := hy _ Keep.rfl
      have F₅ := hmelt k₄
      have hD₅ := F₅.news (D, liO vs m) (by simp)
      have hlen : vs.length ≤ k := by rw [hvs.length]; exact accL_len p f k
      refine wpH_bind (wpH_any fun tk => wpAny_list_append_plain (s := stt s h₄ tk) ⟨m, hD₅⟩ (fun h₅ hpl sb₅ => ⟨h₅, _, rfl, ?_⟩) (by simp; omega))
      obtain ⟨m', hD₆⟩ := hpl
      have e : (vs.toArray.push (Value.int (f k) t)) = (vs ++ [Value.int (f k) t]).toArray := by simp
      rw [e] at hD₆
      have F₆ := F₅.upd sb₅ hD₆ (by simp)
      refine wpH_pure (wpH_pure (.inl ⟨rfl, n - (k + 1), by omega, k + 1, by omega, rfl, vs ++ [Value.int (f k) t], m', [(x, v)], o₁, ?_, ho₁, ?_⟩))
      · show IntsAre _ (if p k then _ else _)
        rw [hp]; exact ints_snoc hvs _ _
      · have : updN D (liO (vs ++ [Value.int (f k) t]) m') [(it, o₁), (D, liO vs m)] = [(it, o₁), (D, liO (vs ++ [Value.int (f k) t]) m')] := by simp [updN, hiD]
        rw [this] at F₆
        exact F₆
  · obtain rfl : k = n := by omega
    refine Z.done h o hit ho hs _ _ fun h₁ kp => wpH_pure (q vs m h₁ l hvs (F.extBut kp))
end
end Mine
namespace Mine
open PySem PySem.W PyProof.Rows PySem.Calls
open Sem (wp)
section
variable {prog : Program} {w : World} {s : Shared} {A : Around} {env : Env} {h : Heap} {X : Value → Heap → Prop}
theorem wpH_standIf {α : Type} {c : Prop} [Decidable c] {pos : Pos} {k : PUnit → Sem α} {Q : α → Heap → Prop} (x : wpH (model prog w) s A (k ()) Q X h) : wpH (model prog w) s A (if c then (standAt pos >>= k) else k ()) Q X h := by
  split
  · exact wpH_bind (wpH_standAt x)
  · exact x
/-- what iter gives, and how it is walked -/
def Walk (prog : Program) (w : World) (s : Shared) (A : Around) (h : Heap) (v : Value) (n : Nat) (item : Nat → Value → Prop) : Prop :=
  ∀ h₁, Keep h h₁ → ∀ (Q : Value → Heap → Prop) (X : Value → Heap → Prop), (∀ it o₀ h₂ itP so, Srce prog w s A it itP n item so → Keep h₁ h₂ → h₁.get? it = none → h₂.get? it = some o₀ → itP 0 o₀ → (∀ q ∈ so, h₁.get? q.1 = some q.2) → Q (.ref it) h₂) → wpH (model prog w) s A (pyIter v) Q X h₁
theorem comp_H {elt iter : Expr} {x : Str} {px : Pos} {ifs : List Expr} {scope : Scope} {cl : List (Str × Addr)} {pos pos' : Pos} {n : Nat} {item : Nat → Value → Prop} {V : Value → Heap → Prop} {use : Option (Value → Sem Unit)} {Q : Value → Heap → Prop}
    (y : Ev (model prog w) s A env h iter V) (hV : ∀ v h₁, Keep h h₁ → V v h₁ → Walk prog w s A h₁ v n item) (p : Nat → Bool) (f : Nat → Int) (hn : n ≤ sizeLine)
    (hclos : closureFor scope env = pure cl) (hcell : ∀ y ∈ scope.names, y.2 ≠ .cell) (hkind : scope.kind = .function) (hnames : ∀ y ∈ scope.names, y.2 = .local → scope.names.lookup y.1 = some .local) (hx : scope.names.lookup x = some .local)
    (tests : ∀ C k v B' h', k < n → item k v → (∀ b o, h.get? b = some o → B' b = some o) → Fra B' C [(x, v)] [] h' → ∀ (Q : Bool → Heap → Prop) (X : Value → Heap → Prop), (∀ h'', Keep h' h'' → Q (p k) h'') →
      wpH (model prog w) s A (forIn ifs true fun c r => if r = true then do let ok ← isTrue c (compEnvC scope cl C env) (eval c (compEnvC scope cl C env)); pure (ForInStep.yield ok) else pure (ForInStep.yield r)) Q X h')
    (el : ∀ C k v B' h', k < n → p k = true → item k v → (∀ b o, h.get? b = some o → B' b = some o) → Fra B' C [(x, v)] [] h' → Ev (model prog w) s A (compEnvC scope cl C env) h' elt (IsI (f k)))
    (q : ∀ D C vs m mc h', IntsAre vs (accL p f n) → Keep h h' → h.get? D = none → h.get? C = none → D ≠ C → h'.get? D = some (liO vs m) → h'.Ns C mc →
      match use with
      | none => ∀ h₂, Heap.SameBut C h' h₂ → Q (.ref D) h₂
      | some u => wpH (model prog w) s A (u (.ref D)) (fun _ h₁ => ∃ m, h₁.Ns C m ∧ ∀ h₂, Heap.SameBut C h₁ h₂ → Q .none h₂) X h')
    (hs : ∀ x, foldedSetIterable iter env x = pure x := by intro _; rfl) :
    wpH (model prog w) s A (comprehension (.ListComp elt [⟨.Name x px, iter, ifs, 0⟩] scope pos) scope env pos' (newList []) false (eval iter env) use) Q X h := by
  unfold comprehension
  rw [hclos, show clausesOf (.ListComp elt [⟨.Name x px, iter, ifs, 0⟩] scope pos) = [⟨.Name x px, iter, ifs, 0⟩] from rfl]
  refine wpH_bind (y.wp fun v h₁ k₁ hv => wpH_bind (wpH_standAt (wpH_bind (wpH_of_eq (hs v) (wpH_pure (wpH_bind (wpH_holding ?_)))))))
  refine hV v h₁ k₁ (hv _ Keep.rfl) h₁ Keep.rfl _ _ fun it o₀ h₂ itP so Z k₂ hit hit₂ h0 hso => ?_
  refine wpH_standIf (wpH_bind (wpH_any fun tk => wpAny_newObj_type ⟨_, _, rfl, ?_⟩))
  refine wpH_bind (wpH_pure (wpH_bind (wpH_any fun tk => wpAny_newFunctionEnv hcell (by intro y hy; simp at hy) (fun h₄ hns hsb => ⟨h₄, _, rfl, ?_⟩) hkind)))
  dsimp only [stt] at hns hsb ⊢
  have e3 : (h₂.push (liO [] 0)).objs.size = h₂.objs.size + 1 := Heap.size_push ..
  have e3' : (h₂.push { cls := .type "list", dict := none, data := .seq ([] : List Value).toArray }).objs.size = h₂.objs.size + 1 := Heap.size_push ..
  rw [e3'] at hns hsb ⊢
  have hlt : it < h₂.objs.size := Heap.lt_size hit₂
  have none₁ : ∀ a, h₂.objs.size ≤ a → h₁.get? a = none := fun a ha => by
    cases e : h₁.get? a with
    | none => rfl
    | some o => exact absurd (Heap.lt_size (k₂ _ _ e)) (Nat.not_lt.mpr ha)
  have none₀ : ∀ a, h₁.get? a = none → h.get? a = none := fun a ha => by
    cases e : h.get? a with
    | none => rfl
    | some o => rw [k₁ _ _ e] at ha; cases ha
  have up : ∀ b o, b ≠ h₂.objs.size + 1 → h₂.get? b = some o → h₄.get? b = some o := fun b o hb e => hsb.extBut b o hb (Heap.get?_push_of_some _ (Heap.get?_push_of_some _ e))
  have hD₄ : h₄.get? h₂.objs.size = some (liO [] 0) := hsb.extBut _ _ (Nat.ne_of_lt (Nat.lt_succ_self _)) (Heap.get?_push_of_some _ (Heap.get?_push_size _ rfl))
  have lt1 : ∀ {b o}, h₂.get? b = some o → b ≠ h₂.objs.size + 1 := fun e => Nat.ne_of_lt (Nat.lt_succ_of_lt (Heap.lt_size e))
  have F : Fra h₁.get? (h₂.objs.size + 1) [] [(it, o₀), (h₂.objs.size, liO [] 0)] h₄ := by
    refine ⟨⟨_, hns, fun x v e => by cases e⟩, fun b o e => up b o (lt1 (k₂ _ _ e)) (k₂ _ _ e), fun q hq => ?_, fun q hq => ?_, none₁ _ (Nat.le_succ _), ?_⟩
    · simp only [List.mem_cons, List.not_mem_nil, or_false] at hq
      rcases hq with rfl | rfl
      · exact up _ _ (lt1 hit₂) hit₂
      · exact hD₄
    · simp only [List.mem_cons, List.not_mem_nil, or_false] at hq
      rcases hq with rfl | rfl
      · exact ⟨hit, lt1 hit₂⟩
      · exact ⟨none₁ _ (Nat.le_refl _), Nat.ne_of_lt (Nat.lt_succ_self _)⟩
    · simp only [List.map_cons, List.map_nil, List.nodup_cons, List.mem_cons, List.not_mem_nil, or_false]
      exact ⟨Nat.ne_of_lt hlt, fun x => x, List.nodup_nil⟩
  have hv : ∀ x ∈ (scope.names.filter fun x => (x.2 == .local || x.2 == .cell) && x.1 != (".0" : Str)).reverse, x.2 = .local →
      (compEnvC scope cl (h₂.objs.size + 1) env).kindOf x.1 = some .local := fun x hx hl => lookup_relabel_local (hnames x (List.mem_filter.mp (List.mem_reverse.mp hx)).1 hl)
  have hv' : ∀ x ∈ (scope.names.filter fun x => (x.2 == .local || x.2 == .cell) && x.1 != (".0" : Str)).reverse.drop 1 ++ (scope.names.filter fun x => (x.2 == .local || x.2 == .cell) && x.1 != (".0" : Str)).reverse.take 1,
      x.2 = .local → (compEnvC scope cl (h₂.objs.size + 1) env).kindOf x.1 = some .local := fun x hx hl => by
    rcases List.mem_append.mp hx with h1 | h1
    · exact hv x (List.mem_of_mem_drop h1) hl
    · exact hv x (List.mem_of_mem_take h1) hl
  have loop : ∀ R : Result → Heap → Prop, (∀ vs m h' l, IntsAre vs (accL p f n) → Fra h₁.get? (h₂.objs.size + 1) l [(h₂.objs.size, liO vs m)] h' → R (.ok .next) h') →
      codeH (model prog w) s A (.compStart (.ListComp elt [⟨.Name x px, iter, ifs, 0⟩] scope pos) 0 (.ref it) (.ref h₂.objs.size) (compEnvC scope cl (h₂.objs.size + 1) env)) R h₄ := fun R hR => by
    have lp : codeH (model prog w) s A (.compLoop (.ListComp elt [⟨.Name x px, iter, ifs, 0⟩] scope pos) 0 (.ref it) (.ref h₂.objs.size) (compEnvC scope cl (h₂.objs.size + 1) env)) R h₄ :=
      comp_loop Z p f hn hso F h0 hx hkind (fun k v B' h' hk hi hB F' => tests _ k v B' h' hk hi (fun b o e => hB b o (k₁ _ _ e)) F') (fun k v B' h' hk hp hi hB F' => el _ k v B' h' hk hp hi (fun b o e => hB b o (k₁ _ _ e)) F') hR
    refine codeH_of_tree ?_
    show wpH _ _ A ((compStart (.ListComp elt [⟨.Name x px, iter, ifs, 0⟩] scope pos) 0 (.ref it) (.ref h₂.objs.size) (compEnvC scope cl (h₂.objs.size + 1) env)).onRaise (fun x => do noteFrame x (compEnvC scope cl (h₂.objs.size + 1) env); standAt theWindowsPlace)) _ _ h₄
    refine wpH_onRaise (wpH_noX ?_)
    unfold compStart
    show wpH _ _ _ (ask >>= _) _ _ _
    refine wpH_bind (wpH_any fun tk => wpAny_askSetting ⟨_, _, rfl, ?_⟩)
    split
    · exact wpH_pure ⟨rfl, lp⟩
    · refine wpH_bind (wpH_rule ?_)
      show wpH _ _ _ (standAt iter.pos >>= _) _ _ _
      refine wpH_bind (wpH_standAt (wpH_bind (Z.self _ o₀ (F.news _ (List.mem_cons_self ..)) h0 _ _ (wpH_pure ⟨rfl, lp⟩))))
  refine wpH_holding (wpH_bind (wpH_attempt (wpH_holding (wpH_run (loop _ fun vs m h₅ l hvs F₅ => ?_)))))
  have hD₅ := F₅.news _ (List.mem_cons_self ..)
  obtain ⟨mc, hnc, _⟩ := F₅.ns
  have Q₅ := q h₂.objs.size (h₂.objs.size + 1) vs m mc h₅ hvs (k₁.trans F₅.keep) (none₀ _ (none₁ _ (Nat.le_refl _))) (none₀ _ (none₁ _ (Nat.le_succ _))) (Nat.ne_of_lt (Nat.lt_succ_self _)) hD₅ hnc
  cases use with
  | none =>
    exact wpH_bind (wpH_holding (wpH_any fun tk => wpAny_comp_letGo (s := stt s h₅ tk) (cenv := compEnvC scope cl (h₂.objs.size + 1) env) hkind _ mc hv hnc fun h' m' _ hs' => ⟨h', _, rfl, wpH_pure (Q₅ h' hs')⟩))
  | some u =>
    refine wpH_bind (wpH_rule (wpH_bind (wpH_holding (wpH_post Q₅ fun _ h₆ q₆ => ?_))))
    obtain ⟨m, hn₆, hr'⟩ := q₆
    exact wpH_bind (wpH_any fun tk => wpAny_comp_letGo (s := stt s h₆ tk) (cenv := compEnvC scope cl (h₂.objs.size + 1) env) hkind _ m hv' hn₆ fun h' m' _ hs' => ⟨h', _, rfl, wpH_pure (hr' h' hs')⟩)
end
end Mine
namespace Mine
open PySem PySem.W PyProof.Rows PySem.Calls
open Sem (wp)
abbrev NewL (h₀ : Heap) (ns : List Int) : Value → Heap → Prop := fun u h => ∃ a vs m, u = .ref a ∧ h₀.get? a = none ∧ h.get? a = some (liO vs m) ∧ IntsAre vs ns
theorem liO_isList {h : Heap} {a : Addr} {vs : List Value} {m : Nat} (e : h.get? a = some (liO vs m)) : h.IsList a vs.toArray := ⟨_, e, rfl, m, rfl⟩
theorem NewL.is {h₀ h : Heap} {ns : List Int} {v : Value} (x : NewL h₀ ns v h) : IsIL ns v h := let ⟨a, vs, _, e, _, g, i⟩ := x; ⟨a, vs, e, liO_isList g, i⟩
section
variable {prog : Program} {w : World} {s : Shared} {A : Around} {env : Env} {h : Heap} {X : Value → Heap → Prop} {B : Addr → Option Obj} {L : Addr} {l : List (Str × Value)} {N : List (Addr × Obj)}
theorem walk_range {v : Value} {a b : Int} {n : Nat} (hv : IsR a b v h) (hb : b = a + n) (ha : -(2 ^ 61) ≤ a ∧ a < 2 ^ 61) (hn : n < 2 ^ 61) (hh : A.handled = none) : Walk prog w s A h v n (fun k v => ∃ t, v = .int (a + k) t) := fun h₁ k₁ Q X q => by
  obtain ⟨r, t, u, t', rfl, hr⟩ := hv
  subst hb
  have hsz : Builtin.Range.rangeSize a (a + n) 1 = n := by rw [rangeSize_one]; split <;> omega
  refine wpH_any fun tk => wpAny_pyIter_range (s := stt s h₁ tk) (k₁ _ _ hr) (small_one (by omega) (by omega) (by omega) (by omega)) ⟨_, _, rfl, ?_⟩
  rw [hsz]
  refine q h₁.objs.size (rgIt a n) _ (fun k o => o = rgIt (a + k) (n - k)) [] ⟨fun k h o hk ho hp _ Q X q => ?_, fun h o ho hp _ Q X q => ?_, fun h o ho hp Q X q => ?_⟩ (fun b o e => Heap.get?_push_of_some _ e) (Heap.get?_none_of_le (Nat.le_refl _)) (Heap.get?_push_size _ rfl) (by simp) (fun _ hq => (nomatch hq))
  · subst hp
    refine wpH_any fun tk => wpAny_pyNext_range_item (s := stt s h tk) ho (by omega) fun h₄ hit₄ sb => ⟨h₄, _, rfl, q _ _ _ ⟨_, rfl⟩ hit₄ ?_ sb⟩
    rw [show a + ((k + 1 : Nat) : Int) = a + (k : Int) + 1 by omega, show (n : Int) - ((k + 1 : Nat) : Int) = (n : Int) - (k : Int) - 1 by omega]
  · subst hp
    exact wpH_any fun tk => wpAny_pyNext_range_end (s := stt s h tk) hh ho (by omega) fun h₄ eb => ⟨h₄, _, rfl, q h₄ eb⟩
  · subst hp
    exact wpH_any fun tk => wpAny_pyIter_rangeiter (s := stt s h tk) ho ⟨h, tk, rfl, q⟩
theorem walk_list {v : Value} {ns : List Int} (hv : IsIL ns v h) (hh : A.handled = none) : Walk prog w s A h v ns.length (fun k v => ∃ t, v = .int (ns.getD k 0) t) := fun h₁ k₁ Q X q => by
  obtain ⟨a, vs, rfl, ⟨ol, hol, hc, m, hd⟩, hi⟩ := hv
  have hl₁ : h₁.get? a = some ol := k₁ _ _ hol
  have isl : ∀ {h' : Heap}, h'.get? a = some ol → h'.IsList a vs.toArray := fun e => ⟨ol, e, hc, m, hd⟩
  refine wpH_any fun tk => wpAny_pyIter_list (s := stt s h₁ tk) (isl hl₁) ⟨_, _, rfl, ?_⟩
  refine q h₁.objs.size _ _ (fun k o => o.cls = .type "list_iterator" ∧ o.data = .fields #[.ref a, .int k 0]) [(a, ol)] ⟨fun k h o hk ho hp hs Q X q => ?_, fun h o ho hp hs Q X q => ?_, fun h o ho hp Q X q => ?_⟩ (fun b o e => Heap.get?_push_of_some _ e) (Heap.get?_none_of_le (Nat.le_refl _)) (Heap.get?_push_size _ rfl) ⟨rfl, rfl⟩ (fun p hp => by simp only [List.mem_cons, List.not_mem_nil, or_false] at hp; subst hp; exact hl₁)
  · obtain ⟨t, e⟩ := intsAre_get hi k hk
    refine wpH_any fun tk => wpAny_pyNext_list_item (s := stt s h tk) ⟨o, ho, hp.1, hp.2⟩ (isl (hs _ (List.mem_cons_self ..))) (by simpa using e) fun h₄ hit₄ sb => ?_
    obtain ⟨o', e1, e2, e3⟩ := hit₄
    exact ⟨h₄, _, rfl, q _ _ o' ⟨_, rfl⟩ e1 ⟨e2, e3⟩ sb⟩
  · exact wpH_any fun tk => wpAny_pyNext_list_end (s := stt s h tk) hh ⟨o, ho, hp.1, hp.2⟩ (isl (hs _ (List.mem_cons_self ..))) (by have := hi.length; simp [this]) fun h₄ eb => ⟨h₄, _, rfl, q h₄ eb⟩
  · exact wpH_any fun tk => wpAny_pyIter_listiter (s := stt s h tk) (i := 0) ⟨o, ho, hp.1, hp.2⟩ ⟨h, tk, rfl, q⟩
theorem tests_nil {C : Addr} {scope : Scope} {cl : List (Str × Addr)} {Q : Bool → Heap → Prop} {h' : Heap} (q : Q true h') :
    wpH (model prog w) s A (forIn ([] : List Expr) true fun c r => if r = true then do let ok ← isTrue c (compEnvC scope cl C env) (eval c (compEnvC scope cl C env)); pure (ForInStep.yield ok) else pure (ForInStep.yield r)) Q X h' := wpH_pure q
theorem tests_one {C : Addr} {scope : Scope} {cl : List (Str × Addr)} {c : Expr} {b : Bool} {Q : Bool → Heap → Prop} {h' : Heap} (x : EvT (model prog w) s A (compEnvC scope cl C env) h' c b) (q : ∀ h'', Keep h' h'' → Q b h'') :
    wpH (model prog w) s A (forIn [c] true fun c r => if r = true then do let ok ← isTrue c (compEnvC scope cl C env) (eval c (compEnvC scope cl C env)); pure (ForInStep.yield ok) else pure (ForInStep.yield r)) Q X h' := by
  simp only [List.forIn_cons, List.forIn_nil, if_true]
  exact wpH_bind (wpH_bind (x h' Keep.rfl _ _ fun h₂ k₂ => wpH_pure (wpH_pure (q h₂ k₂))))
/-- a comprehension as an expression -/
theorem Ev.comp {elt iter : Expr} {x : Str} {px : Pos} {ifs : List Expr} {scope : Scope} {cl : List (Str × Addr)} {pos : Pos} {n : Nat} {item : Nat → Value → Prop} {V : Value → Heap → Prop}
    (y : Ev (model prog w) s A env h iter V) (hV : ∀ v h₁, Keep h h₁ → V v h₁ → Walk prog w s A h₁ v n item) (p : Nat → Bool) (f : Nat → Int) (hn : n ≤ sizeLine)
    (hclos : closureFor scope env = pure cl) (hx : scope.names.lookup x = some .local)
    (tests : ∀ C k v B' h', k < n → item k v → (∀ b o, h.get? b = some o → B' b = some o) → Fra B' C [(x, v)] [] h' → ∀ (Q : Bool → Heap → Prop) (X : Value → Heap → Prop), (∀ h'', Keep h' h'' → Q (p k) h'') →
      wpH (model prog w) s A (forIn ifs true fun c r => if r = true then do let ok ← isTrue c (compEnvC scope cl C env) (eval c (compEnvC scope cl C env)); pure (ForInStep.yield ok) else pure (ForInStep.yield r)) Q X h')
    (el : ∀ C k v B' h', k < n → p k = true → item k v → (∀ b o, h.get? b = some o → B' b = some o) → Fra B' C [(x, v)] [] h' → Ev (model prog w) s A (compEnvC scope cl C env) h' elt (IsI (f k)))
    (hs : ∀ x, foldedSetIterable iter env x = pure x := by intro _; rfl) (hcell : ∀ y ∈ scope.names, y.2 ≠ .cell := by decide) (hkind : scope.kind = .function := by rfl) (hnames : ∀ y ∈ scope.names, y.2 = .local → scope.names.lookup y.1 = some .local := by decide) :
    Ev (model prog w) s A env h (.ListComp elt [⟨.Name x px, iter, ifs, 0⟩] scope pos) (NewL h (accL p f n)) := fun h₁ k₁ Q X q => by
  rw [eval_ListComp]
  refine comp_H (y.ext k₁) (fun v h₂ k₂ hv => hV v h₂ (k₁.trans k₂) hv) p f hn hclos hcell hkind hnames hx (fun C k v B' h' hk hi hB F' => tests C k v B' h' hk hi (fun b o e => hB b o (k₁ _ _ e)) F') (fun C k v B' h' hk hp hi hB F' => el C k v B' h' hk hp hi (fun b o e => hB b o (k₁ _ _ e)) F') (fun D C vs m mc h' hvs k' hD hC hDC hgD hnc h₂ hsb => ?_) hs
  have k₂ : Keep h₁ h₂ := fun b o e => hsb.extBut b o (fun z => by rw [z, hC] at e; cases e) (k' _ _ e)
  refine q _ _ k₂ fun h₃ k₃ => ⟨D, vs, m, rfl, ?_, k₃ _ _ ((hsb.2 D hDC).trans hgD), hvs⟩
  cases e : h.get? D with
  | none => rfl
  | some o => rw [k₁ _ _ e] at hD; cases hD
/-- a comprehension stored to a local name -/
theorem asgComp {elt iter : Expr} {x yn : Str} {px py : Pos} {ifs : List Expr} {scope : Scope} {cl : List (Str × Addr)} {pos spos : Pos} {n : Nat} {item : Nat → Value → Prop} {V : Value → Heap → Prop} {Q : Flow → Heap → Prop} (F : Fra B L l N h)
    (y : Ev (model prog w) s A env h iter V) (hV : ∀ v h₁, Keep h h₁ → V v h₁ → Walk prog w s A h₁ v n item) (p : Nat → Bool) (f : Nat → Int) (hn : n ≤ sizeLine)
    (hclos : closureFor scope env = pure cl) (hx : scope.names.lookup x = some .local)
    (tests : ∀ C k v B' h', k < n → item k v → (∀ b o, h.get? b = some o → B' b = some o) → Fra B' C [(x, v)] [] h' → ∀ (Q : Bool → Heap → Prop) (X : Value → Heap → Prop), (∀ h'', Keep h' h'' → Q (p k) h'') →
      wpH (model prog w) s A (forIn ifs true fun c r => if r = true then do let ok ← isTrue c (compEnvC scope cl C env) (eval c (compEnvC scope cl C env)); pure (ForInStep.yield ok) else pure (ForInStep.yield r)) Q X h')
    (el : ∀ C k v B' h', k < n → p k = true → item k v → (∀ b o, h.get? b = some o → B' b = some o) → Fra B' C [(x, v)] [] h' → Ev (model prog w) s A (compEnvC scope cl C env) h' elt (IsI (f k)))
    (q : ∀ D vs m h', IntsAre vs (accL p f n) → Fra B L (setL yn (.ref D) l) ((D, liO vs m) :: N) h' → Q .next h')
    (hsw : swapsWith (.ListComp elt [⟨.Name x px, iter, ifs, 0⟩] scope pos) (some (.Name yn py)) spos.line env = pure true := by rfl)
    (hs : ∀ x, foldedSetIterable iter env x = pure x := by intro _; rfl) (hcell : ∀ y ∈ scope.names, y.2 ≠ .cell := by decide) (hkind : scope.kind = .function := by rfl) (hnames : ∀ y ∈ scope.names, y.2 = .local → scope.names.lookup y.1 = some .local := by decide)
    (hL : env.locals = L := by rfl) (hl : env.kindOf yn = some .local := by rfl) (hk : env.scope.kind = .function := by rfl) :
    wpH (model prog w) s A (exec (.Assign [.Name yn py] (.ListComp elt [⟨.Name x px, iter, ifs, 0⟩] scope pos) spos) env) Q X h := by
  rw [exec_Assign_Name_used _ _ _ _ hsw]
  refine wpH_bind (wpH_standAt (wpH_bind ?_))
  show wpH _ _ A (do let _ ← comprehension (.ListComp elt [⟨.Name x px, iter, ifs, 0⟩] scope pos) scope env _ (newList []) false (eval iter env) (some (assign (.Name yn py) env))) _ _ h
  refine wpH_bind (comp_H (Q := fun _ h' => wpH (model prog w) s A (pure ()) _ X h') y hV p f hn hclos hcell hkind hnames hx tests el (fun D C vs m mc h' hvs k' hD hC hDC hgD hnc => ?_) hs)
  obtain ⟨oC, es, ep, hoC, hrest⟩ := hnc
  have F₁ := F.fresh k' hD hgD
  have F₂ : Fra B L l ((C, oC) :: (D, liO vs m) :: N) h' := by
    have hCB : B C = none := by
      cases e : B C with
      | none => rfl
      | some o => rw [F.keep _ _ e] at hC; cases hC
    have hCL : C ≠ L := by
      rintro rfl
      obtain ⟨m, ⟨o, es, ep, e, _⟩, _⟩ := F.ns
      rw [e] at hC; cases hC
    refine ⟨F₁.ns, F₁.keep, fun p hp => ?_, fun p hp => ?_, F₁.own, ?_⟩
    · rcases List.mem_cons.mp hp with rfl | hp
      · exact hoC
      · exact F₁.news p hp
    · rcases List.mem_cons.mp hp with rfl | hp
      · exact ⟨hCB, hCL⟩
      · exact F₁.apart p hp
    · rw [List.map_cons, List.nodup_cons]
      refine ⟨fun hm => ?_, F₁.nodup⟩
      obtain ⟨p, hp, e⟩ := List.mem_map.mp hm
      have e' : p.1 = C := e
      rcases List.mem_cons.mp hp with rfl | hp
      · exact hDC e'
      · rw [← e', F.news p hp] at hC; cases hC
  show wpH _ _ A (assign (.Name yn py) env (.ref D)) _ _ _
  rw [PySem.assign_Name]
  refine wpH_bind (wpH_standAt (wpH_bindName (wpH_store F₂ (fun h₂ _ F₃ => ?_) hL hl hk)))
  refine ⟨mc, ⟨oC, es, ep, F₃.news _ (List.mem_cons_self ..), hrest⟩, fun h₃ sb => wpH_pure (wpH_pure (q D vs m h₃ hvs ?_))⟩
  exact F₃.extBut sb.extBut
end
end Mine
namespace Mine
open PySem PySem.W PyProof.Rows PySem.Calls
open Sem (wp)
section
variable {prog : Program} {w : World} {s : Shared} {A : Around} {env : Env} {h : Heap}
theorem nodec_init (a : Args) : nodec (.builtin "bytearray.__init__" a) = true := by show (!Builtin.Bytes.decodersThatHold.contains "bytearray.__init__") = true; decide +kernel
theorem new_ba {v : Value} {b : Array UInt8} {Q X : Value → Heap → Prop}
    (hi : ∀ (tk : Nat) (Q' : PySem.Fin → Shared → Prop) (E' : Value → Shared → Prop), (∀ h', h'.get? h.objs.size = some (ba b) → Heap.SameBut h.objs.size (h.push (ba #[])) h' → Q' (.done (.ret .none)) (stt s h' tk)) →
      wpC (model prog w) A.in1.in1 (Builtin.«bytearray.__init__» ⟨[.ref h.objs.size, v], []⟩) Q' E' (stt s (h.push (ba #[])) tk))
    (q : ∀ a h₂, Keep h h₂ → h.get? a = none → h₂.get? a = some (ba b) → Q (.ref a) h₂) : wpH (model prog w) s A (call (.type "bytearray") [v]) Q X h := fun tk => by
  refine callTypeC B.called (B.typeCall _) B.entry_init nodec_init (code_ba_new (s := stt s h tk) v (Q₁ := fun u s₁ => u = .ref h.objs.size ∧ s₁ = stt s (h.push (ba #[])) tk) ⟨rfl, rfl⟩) ?_
  rintro obj s₁ ⟨rfl, rfl⟩
  refine ⟨⟨_, Heap.get?_push_size _ rfl, rfl⟩, B.args_init _ _, hi tk _ _ fun h' hg hsb => ?_⟩
  refine ⟨rfl, h', tk, rfl, q _ _ (fun b o e => ?_) (Heap.get?_none_of_le (Nat.le_refl _)) hg⟩
  exact (hsb.2 b (Nat.ne_of_lt (Heap.lt_size e))).trans (Heap.get?_push_of_some _ e)
theorem Ev.baI {f : Str} {p pos : Pos} {e : Expr} {n : Int} {k : Nat} (y : Ev (model prog w) s A env h (.Name f p) (Is (.type "bytearray"))) (z : Ev (model prog w) s A env h e (IsI n)) (hn : n = k) (hk : k ≤ 1000) (hg : A.guards = some [])
    (he : starEach [e] env = (false, eval e env) :: starEach [] env := by rfl) (hne : ∀ pos, (backTo pos (starEach [e] env)).all (fun x => !x.1) = true := by intro _; rfl) : Ev (model prog w) s A env h (.Call (.Name f p) [e] [] pos) (NewB h (Array.replicate k 0)) :=
  Ev.call y rfl (EvL.cons z EvL.nil he) (fun vs h₁ k₁ hvs Q X q => by
    obtain ⟨v, r, rfl, ⟨t, rfl⟩, rfl⟩ := hvs
    subst hn
    refine new_ba (fun tk Q' E' q' => wpC_ba_init_int (s := stt s (h₁.push (ba #[])) tk) hg (Heap.get?_push_size _ rfl) (by omega) (sz_of _ (by omega)) q') fun a h₂ k₂ ha hb => q _ _ k₂ fun h₃ k₃ => ⟨a, rfl, ?_, k₃ _ _ hb⟩
    cases e : h.get? a with
    | none => rfl
    | some o => rw [k₁ _ _ e] at ha; cases ha) hne
theorem Ev.baL {f : Str} {p pos : Pos} {e : Expr} {ns : List Int} (y : Ev (model prog w) s A env h (.Name f p) (Is (.type "bytearray"))) (z : Ev (model prog w) s A env h e (IsIL ns)) (hr : ∀ n ∈ ns, 0 ≤ n ∧ n < 256) (hk : ns.length ≤ 1000) (hg : A.guards = some [])
    (he : starEach [e] env = (false, eval e env) :: starEach [] env := by rfl) (hne : ∀ pos, (backTo pos (starEach [e] env)).all (fun x => !x.1) = true := by intro _; rfl) : Ev (model prog w) s A env h (.Call (.Name f p) [e] [] pos) (NewB h (byteArr ns)) :=
  Ev.call y rfl (EvL.cons z EvL.nil he) (fun vs h₁ k₁ hvs Q X q => by
    obtain ⟨v, r, rfl, ⟨l, vs', rfl, hl, hi⟩, rfl⟩ := hvs
    refine new_ba (fun tk Q' E' q' => wpC_ba_init_list (s := stt s (h₁.push (ba #[])) tk) hg (Heap.get?_push_size _ rfl) (hl.push _) hi hr (sz_of _ hk) q') fun a h₂ k₂ ha hb => q _ _ k₂ fun h₃ k₃ => ⟨a, rfl, ?_, k₃ _ _ hb⟩
    cases e : h.get? a with
    | none => rfl
    | some o => rw [k₁ _ _ e] at ha; cases ha) hne
/-- a list display of ints -/
theorem ints2 {V : List Value → Heap → Prop} {es : List Expr} {ns : List Int} (y : EvL (model prog w) s A env h es V) (hV : ∀ vs h', V vs h' → IntsAre vs ns) {pos : Pos} (hn : ns.length ≤ 1000) : Ev (model prog w) s A env h (.List es pos) (NewL h ns) := fun h₁ k₁ Q X q => by
  show wpH _ _ _ (do standAt pos; newList (← spliced (backTo pos (starEach es env)))) _ _ _
  refine wpH_bind (wpH_standAt (wpH_bind (y pos h₁ k₁ _ _ fun vs h₂ k₂ hv => ?_)))
  have hi := hV _ _ (hv _ Keep.rfl)
  refine wpH_any fun tk => wpAny_newObj_type (s := stt s h₂ tk) ⟨_, _, rfl, q _ _ (k₂.trans fun b o e => Heap.get?_push_of_some _ e) fun h₃ k₃ => ⟨_, vs, 0, rfl, ?_, k₃ _ _ (Heap.get?_push_size _ rfl), hi⟩⟩ (by show vs.toArray.size ≤ sizeLine; rw [List.size_toArray, hi.length]; exact sz_of _ hn)
  cases e : h.get? h₂.objs.size with
  | none => exact e
  | some o => exact absurd (Heap.lt_size ((k₁.trans k₂) _ _ e)) (Nat.lt_irrefl _)
end
end Mine
namespace Mine
open PySem PySem.W PyProof.Rows PySem.Calls
open Sem (wp)
section
variable {prog : Program} {w : World} {s : Shared} {A : Around} {env : Env} {h : Heap} {fa : Nat → Addr} {la ea : Addr} {lg ex : Array UInt8} {mg mb : Str → Option Value}
theorem con_ofC {i : Nat} {vs : List Value} {V : Value → Heap → Prop} {names : List Str} {n : Nat} (D : Md fa la ea lg ex mg mb h) (R : Room A (n + 1)) (hi : i ∈ defIx)
    (hb : ∀ pm c doc, bindArgs (fdOf i .none pm c doc) ⟨vs, []⟩ = pure (names.zip vs))
    (hkind : ∀ L, ∀ x ∈ names.zip vs, (fnAt i).2.2.2.names.lookup x.1 = some .local ∨ ((fnAt i).2.2.2.names.lookup x.1 = some .cell ∧ ∃ c, (cellsFrom (L + 1) (fnAt i).2.2.2.names []).lookup x.1 = some c ∧ ∃ v, (c, cellO v) ∈ cellsN (L + 1) (fnAt i).2.2.2.names))
    (x : ∀ L pm c doc h₁ (Q X : Value → Heap → Prop), Md fa la ea lg ex mg mb h₁ → Keep h h₁ →
      Fra h.get? L (stepB (callEnvC (fdOf i .none pm c doc) L (fa i)) (names.zip vs) [] (cellsN (L + 1) (fnAt i).2.2.2.names)).1 (stepB (callEnvC (fdOf i .none pm c doc) L (fa i)) (names.zip vs) [] (cellsN (L + 1) (fnAt i).2.2.2.names)).2 h₁ → Room (A.deeper (callEnvC (fdOf i .none pm c doc) L (fa i))) n →
      (∀ v h₂, Keep h h₂ → (∀ h₃, Keep h₂ h₃ → V v h₃) → Q v h₂) →
      wpH (model prog w) s (A.deeper (callEnvC (fdOf i .none pm c doc) L (fa i))) (execs (fnAt i).2.2.1 (callEnvC (fdOf i .none pm c doc) L (fa i))) (fun fl h' => Q (match fl with | .ret v => v | _ => .none) h') noX h₁)
    (hdf : (fnAt i).2.1.defaults = [] := by rfl) (hco : (fnAt i).2.2.2.isCoroutine = false := by rfl) (hgen : (fnAt i).2.2.2.isGenerator = false := by rfl) (hk : (fnAt i).2.2.2.kind = .function := by rfl) :
    Con (model prog w) s A (fa i) vs h V := fun Q X q => by
  obtain ⟨o, dV, pm, c, doc, h1, h2, h3, h4⟩ := (D.fn i hi).2.at'
  obtain rfl := h4 hdf
  refine callHC (by have := R.d; omega) h1 h2 D.gl.lim h3 rfl rfl (fun tk => .of_eq (hb _ _ _)) hkind (fun L h₁ F => ?_) hco hgen hk
  exact wpH_mono (x L pm (.ref c) doc h₁ Q X (D.keeps F.keep) F.keep F R.deeper q) (fun _ _ z => z) fun _ _ z => z.elim
theorem Ev.cellH {x : Str} {pos : Pos} {v : Value} {c : Addr} (hN : h.get? c = some (cellO (some v))) (hc : env.cells.lookup x = some c := by rfl) (hk : env.scope.kind = .function := by rfl)
    (hl : env.kindOf x = some .cell := by rfl) (hd : (x == ("__debug__" : Str)) = false := by decide) : Ev (model prog w) s A env h (.Name x pos) (Is v) := fun h₁ k Q X q =>
  wpH_any fun tk => wpAny_Name (wpAny_loadName_cell hk hl hc ⟨_, k _ _ hN, rfl⟩ ⟨h₁, tk, rfl, q _ _ Keep.rfl fun _ _ => rfl⟩) hd
theorem Ev.isB {e : Expr} {a : Addr} {b : Array UInt8} (x : Ev (model prog w) s A env h e (Is (.ref a))) (ha : h.get? a = some (ba b)) : Ev (model prog w) s A env h e (IsB b) := x.mono fun v h' k e => ⟨a, e, k _ _ ha⟩
/-- gf_poly_scale -/
def scl (b : Array UInt8) (x : Nat) : Array UInt8 := byteArr ((List.range b.size).map fun k => (gm (bAt b k) x : Nat))
theorem accL_all (f : Nat → Int) : ∀ k, accL (fun _ => true) f k = (List.range k).map f
  | 0 => rfl
  | k + 1 => by
    show (if true then _ else _) = _
    rw [if_pos rfl, accL_all f k, List.range_succ, List.map_append]; rfl
theorem con_scale (D : Md fa la ea lg ex mg mb h) (R : Room A 2) {a : Addr} {b : Array UInt8} {x : Nat} {t : Tok} (ha : h.get? a = some (ba b)) (hb' : b.size ≤ 1000) (hx : x < 256) :
    Con (model prog w) s A (fa 9) [.ref a, .int x t] h (NewB h (scl b x)) := by
  refine con_ofC (names := ["p", "x"]) D R (by decide) (fun _ _ _ => by rfl) (fun L y hy => ?_) fun L pm c doc h₁ Q X D₁ k₁ F R₁ q => ?_
  · simp only [List.zip_cons_cons, List.zip_nil_right, List.mem_cons, List.not_mem_nil, or_false] at hy
    rcases hy with rfl | rfl
    · exact .inr ⟨by rfl, L + 1, by rfl, none, .head _⟩
    · exact .inr ⟨by rfl, L + 1 + 1, by rfl, none, .tail _ (.head _)⟩
  have e : stepB (callEnvC (fdOf 9 .none pm c doc) L (fa 9)) ([("p" : Str), "x"].zip [Value.ref a, Value.int x t]) [] (cellsN (L + 1) (fnAt 9).2.2.2.names) = ([], [(L + 1, cellO (some (.ref a))), (L + 2, cellO (some (.int x t)))]) := by
    have h1 : (callEnvC (fdOf 9 .none pm c doc) L (fa 9)).kindOf "p" = some .cell := by rfl
    have h2 : (callEnvC (fdOf 9 .none pm c doc) L (fa 9)).kindOf "x" = some .cell := by rfl
    have h3 : (callEnvC (fdOf 9 .none pm c doc) L (fa 9)).cells.lookup ("p" : Str) = some (L + 1) := by rfl
    have h4 : (callEnvC (fdOf 9 .none pm c doc) L (fa 9)).cells.lookup ("x" : Str) = some (L + 2) := by rfl
    have h5 : cellsN (L + 1) (fnAt 9).2.2.2.names = [(L + 1, cellO none), (L + 2, cellO none)] := by rfl
    simp [h5, stepB, h1, h2, h3, h4, updN]
  rw [e] at F
  have hc1 := F.news (L + 1, cellO (some (.ref a))) (.head _)
  have hc2 := F.news (L + 2, cellO (some (.int x t))) (.tail _ (.head _))
  have ha₁ := k₁ _ _ ha
  refine wpH_execs_cons (retE (Ev.baL (ns := (List.range b.size).map fun k => (gm (bAt b k) x : Nat)) (Ev.glob D₁.gl D₁.bt) ((Ev.comp (n := b.size) (item := fun k v => ∃ t, v = .int ((0 : Int) + k) t) (Ev.range1 (Ev.xr D₁) (Ev.lenB (Ev.len' D₁) ((Ev.cell F (.head _)).mono fun v h' k e => ⟨a, e, k _ _ ha₁⟩) (sz_of _ hb'))) (fun v h₂ k₂ hv => walk_range hv (by omega) (by decide) (by omega) R₁.hd)
      (fun _ => true) (fun k => (gm (bAt b k) x : Nat)) (sz_of _ hb') (by rfl) (by rfl) (fun C k v B' h' hk hi hB F' Q X q => tests_nil (q _ Keep.rfl)) (fun C k v B' h' hk hp hi hB F' => ?_)).mono fun v h' k hv => ?_) ?_ (by simpa using hb') R₁.g) fun v h₃ k₃ hv => q _ _ (k₁.trans k₃) fun h₄ k₄ => ?_)
  · obtain ⟨t', rfl⟩ := hi
    have kB : Keep h₁ h' := fun b o e => F'.keep b o (hB b o e)
    exact Ev.gm (D₁.keeps kB) (R₁.le (by decide)) (Ev.itemN (Ev.isB (Ev.cellH (kB _ _ hc1)) (kB _ _ ha₁)) (Ev.locI F') (n := k) (by omega) hk hb') (Ev.cellH (kB _ _ hc2)).toI (bAt_lt _ _) hx
  · rw [accL_all] at hv
    exact hv.is
  · intro n hn
    obtain ⟨k, _, rfl⟩ := List.mem_map.mp hn
    have := gm_lt (bAt b k) x
    omega
  · obtain ⟨a', e1, e2, e3⟩ := hv _ k₄
    refine ⟨a', e1, ?_, e3⟩
    cases e : h.get? a' with
    | none => rfl
    | some o => rw [k₁ _ _ e] at e2; cases e2
end
end Mine
namespace Mine
open PySem PySem.W PyProof.Rows PySem.Calls
open Sem (wp)
section
variable {prog : Program} {w : World} {A : Around} {E : Value → Shared → Prop} {s : Shared}
abbrev slO (l u st : Value) : Obj := { cls := .type "slice", data := .fields #[l, u, st] }
theorem look_index_slice : typeLookup (.type "slice") "__index__" = pure none := by rw [typeLookup_type, builtinLookup_eq_fast]; kernel_rfl
/-- r[0:n] = p, both of n octets -/
theorem setSlice_ba {S P sl : Addr} {b c : Array UInt8} {t u : Tok} {Q : Unit → Shared → Prop} (hS : s.heap.get? S = some (ba b)) (hP : s.heap.get? P = some (ba c)) (hl : s.heap.get? sl = some (slO (.int 0 t) (.int b.size u) .none)) (hne : S ≠ P)
    (hsz : c.size = b.size) (hb : b.size ≤ sizeLine)
    (h : ∀ h', h'.get? S = some (ba c) → Heap.SameBut S s.heap h' → Q () { s with heap := h' }) : wpAny (model prog w) A (setItem (.ref S) (.ref sl) (.ref P)) Q E s := by
  have hTl : s.TypeIs (.ref sl) "slice" := ⟨_, hl, rfl⟩
  unfold setItem
  refine wpAny_holding ?_
  refine wpAny_bind (wpAny_sequenceKey (typeIs_ba hS) (by decide) ?_)
  refine wpAny_bind (wpAny_callSpecial?_slot (name := Str.ofString "__setitem__") (typeIs_ba hS) B.slot_setitem (wpAny_call_entry B.slot_setitem (typeIs_ba hS) B.entry_setitem ?_ (B.args_setitem _ _ _)))
  unfold Builtin.«bytearray.__setitem__»
  dsimp only
  rw [if_neg (by decide)]
  refine wpAny_bind (m := Builtin.Bytes.subscript? (.ref sl)) ?_
  unfold Builtin.Bytes.subscript?
  refine wpAny_bind (wpAny_specialOf hTl look_index_slice ?_)
  rw [if_pos (by decide)]
  refine wpAny_pure ?_
  dsimp only
  refine wpAny_bind (wpAny_typeOf hTl ?_)
  rw [if_neg (by decide)]
  refine wpAny_bind (m := Builtin.Bytes.sliceParts (.ref sl)) ?_
  unfold Builtin.Bytes.sliceParts
  refine wpAny_bind (wpAny_field hl rfl (x := .none) rfl ?_)
  refine wpAny_bind (show wpAny _ _ (pure Value.none) _ _ _ from wpAny_pure ?_)
  rw [if_neg (by decide)]
  refine wpAny_bind (wpAny_field hl rfl (x := .int 0 t) rfl ?_)
  have part : ∀ (i : Int) (t : Tok) (Q' : Value → Shared → Prop), Q' (rawInt i) s → wpAny (model prog w) A.in1 (do
      if Value.int i t == .none then return .none
      if (← specialOf (Value.int i t) "__index__").isNone then
        rule "bytes.slice.part-no-index"; raiseError "TypeError" "slice indices must be integers or None or have an __index__ method"
      return rawInt (← asIndex (Value.int i t))) Q' E s := fun i t Q' q => by
    rw [if_neg (by intro e; cases e)]
    refine wpAny_bind (wpAny_specialOf (typeIs_int s i t) B.look_index_int ?_)
    rw [if_neg (by decide)]
    exact wpAny_bind (show wpAny _ _ (pure i) _ _ _ from wpAny_pure (wpAny_pure q))
  refine wpAny_bind (part 0 t _ ?_)
  refine wpAny_bind (wpAny_field hl rfl (x := .int b.size u) rfl ?_)
  refine wpAny_bind (part b.size u _ (wpAny_pure ?_))
  rw [if_neg (by show ¬ (S == P) = true; simpa using hne)]
  refine wpAny_bind (wpAny_isInstance (typeIs_ba hP) B.sub ?_)
  rw [if_neg (by decide)]
  refine wpAny_bind (wpAny_payload hP ?_)
  refine wpAny_bind (wpAny_payload hS ?_)
  have hsi : sliceIndices (rawInt 0) (rawInt b.size) .none b.size = pure (0, (b.size : Int), 1) := by
    unfold sliceIndices
    show (do
      let start ← (do let i ← asIndex (rawInt 0); pure (max 0 (min (if i < 0 then i + (b.size : Int) else i) (b.size : Int))) : Sem Int)
      let stop ← (do let i ← asIndex (rawInt b.size); pure (max 0 (min (if i < 0 then i + (b.size : Int) else i) (b.size : Int))) : Sem Int)
      pure (start, stop, (1 : Int))) = _
    show (pure (max 0 (min (if (0 : Int) < 0 then 0 + (b.size : Int) else 0) (b.size : Int)), max 0 (min (if (b.size : Int) < 0 then (b.size : Int) + (b.size : Int) else (b.size : Int)) (b.size : Int)), (1 : Int)) : Sem (Int × Int × Int)) = _
    have e1 : max 0 (min (if (0 : Int) < 0 then 0 + (b.size : Int) else 0) (b.size : Int)) = 0 := by rw [if_neg (by omega)]; omega
    have e2 : max 0 (min (if (b.size : Int) < 0 then (b.size : Int) + (b.size : Int) else (b.size : Int)) (b.size : Int)) = (b.size : Int) := by rw [if_neg (by omega)]; omega
    rw [e1, e2]
  rw [hsi]
  refine wpAny_bind (wpAny_pure ?_)
  dsimp only
  rw [if_pos (by decide)]
  refine wpAny_bind (wpAny_rule ?_)
  rw [if_neg (by simp only [bne_iff_ne, ne_eq, Decidable.not_not]; omega)]
  refine wpAny_bind (wpAny_write hS ?_ fun h₁ hS₁ hb₁ => ?_)
  · simp; omega
  have e : b.extract 0 (0 : Int).toNat ++ c ++ b.extract (max 0 (b.size : Int)).toNat b.size = c := by
    have : (max 0 (b.size : Int)).toNat = b.size := by omega
    rw [this]; simp
  rw [e] at hS₁
  refine wpAny_pure ⟨_, rfl, ?_⟩
  exact wpAny_pure (h _ hS₁ hb₁)
end
end Mine
namespace Mine
open PySem PySem.W PyProof.Rows PySem.Calls
open Sem (wp)
section
variable {prog : Program} {w : World} {s : Shared} {A : Around} {env : Env} {h : Heap} {X : Value → Heap → Prop} {B : Addr → Option Obj} {L : Addr} {l : List (Str × Value)} {N : List (Addr × Obj)} {fa : Nat → Addr} {la ea : Addr} {lg ex : Array UInt8} {mg mb : Str → Option Value}
theorem wpH_AugSub {o i value : Expr} {tpos pos : Pos} {op : Operator} {Q : Flow → Heap → Prop}
    (x : wpH (model prog w) s A (eval o env) (fun ov h₁ => wpH (model prog w) s A (eval i env) (fun iv h₂ => wpH (model prog w) s A (getItem ov iv) (fun old h₃ =>
          wpH (model prog w) s A (eval value env) (fun v h₄ => wpH (model prog w) s A (inplaceOp op old v) (fun new h₅ => wpH (model prog w) s A (setItem ov iv new) (fun _ => Q .next) X h₅) X h₄) X h₃) X h₂) X h₁) X h)
    (hi : ∀ ov iv new, augStore i ov iv new = (do holding [new, ov, iv] (setItem ov iv new); release [new, ov, iv] []; pure .next) := by intros; rfl) : wpH (model prog w) s A (exec (.AugAssign (.Subscript o i tpos) op value pos) env) Q X h := by
  have e : exec (.AugAssign (.Subscript o i tpos) op value pos) env = (do
      standAt pos
      let ov ← eval o env
      let iv ← holding [ov] (eval i env)
      let new ← holding [ov, iv] do
        standAt tpos
        let old ← getItem ov iv
        let v ← holding [old] (eval value env)
        standAt pos
        operate [old, v] (inplaceOp op old v)
      standAt tpos
      augStore i ov iv new) := rfl
  rw [e]
  refine wpH_bind (wpH_standAt (wpH_bind (wpH_post x fun ov h₁ x₁ => ?_)))
  refine wpH_bind (wpH_holding (wpH_post x₁ fun iv h₂ x₂ => ?_))
  refine wpH_bind (wpH_holding (wpH_bind (wpH_standAt (wpH_bind (wpH_post x₂ fun old h₃ x₃ => ?_)))))
  refine wpH_bind (wpH_holding (wpH_post x₃ fun v h₄ x₄ => ?_))
  refine wpH_bind (wpH_standAt (wpH_operate (wpH_post x₄ fun new h₅ x₅ => ?_)))
  refine wpH_bind (wpH_standAt ?_)
  rw [hi]
  exact wpH_bind (wpH_holding (wpH_post x₅ fun _ h₆ x₆ => wpH_bind (wpH_any fun tk => wpAny_release ⟨h₆, tk, rfl, wpH_pure x₆⟩)))
/-- r[k] ^= x on a bytearray of the frame's own -/
theorem augXor {o i value : Expr} {tpos pos : Pos} {Q : Flow → Heap → Prop} {a : Addr} {b : Array UInt8} {k : Int} {n x : Nat} (F : Fra B L l N h) (hN : (a, ba b) ∈ N) (hx : x < 256)
    (y : Ev (model prog w) s A env h o (Is (.ref a))) (z : Ev (model prog w) s A env h i (IsI k)) (v : Ev (model prog w) s A env h value (IsI x)) (e : k = n) (hn : n < b.size) (hb : b.size ≤ 1000)
    (q : ∀ h', Fra B L l (updN a (ba (b.setIfInBounds n (bAt b n ^^^ x).toUInt8)) N) h' → Q .next h')
    (hi : ∀ ov iv new, augStore i ov iv new = (do holding [new, ov, iv] (setItem ov iv new); release [new, ov, iv] []; pure .next) := by intros; rfl) : wpH (model prog w) s A (exec (.AugAssign (.Subscript o i tpos) .BitXor value pos) env) Q X h := by
  subst e
  refine wpH_AugSub (y h Keep.rfl _ _ fun ov h₁ k₁ hov => z h₁ k₁ _ _ fun iv h₂ k₂ hiv => ?_) hi
  obtain rfl := hov _ Keep.rfl
  obtain ⟨t, rfl⟩ := hiv _ Keep.rfl
  have ha := F.news _ hN
  refine wpH_any fun tk => getItem_ba (s := stt s h₂ tk) ((k₁.trans k₂) _ _ ha) (by omega) (by omega) (sz_of _ hb) ⟨h₂, _, rfl, v h₂ (k₁.trans k₂) _ _ fun u h₃ k₃ hu => ?_⟩
  obtain ⟨t', rfl⟩ := hu _ Keep.rfl
  have F₃ := F.keeps ((k₁.trans k₂).trans k₃)
  refine wpH_any fun tk => ixor_int ⟨h₃, _, rfl, ?_⟩
  rw [show ((b.getD ((n : Int).toNat) 0).toNat : Int) = ((bAt b n : Nat) : Int) from rfl, bitXor_nat]
  have hlt := xor_lt (bAt_lt b n) hx
  refine wpH_any fun tk => setItem_ba (s := stt s h₃ tk) (F₃.news _ hN) (by omega) (by omega) (sz_of _ hb) (by omega) (by omega) fun h' hS' sb => ⟨h', _, rfl, q h' ?_⟩
  exact F₃.upd sb hS' (List.mem_map.mpr ⟨_, hN, rfl⟩)
theorem bAt_set {b : Array UInt8} {k x : Nat} (hk : k < b.size) (hx : x < 256) (i : Nat) : bAt (b.setIfInBounds k x.toUInt8) i = if i = k then x else bAt b i := by
  unfold bAt
  by_cases h : i = k
  · subst h
    simp [Array.getD, hk]
    omega
  · rw [if_neg h]
    by_cases hi : i < b.size
    · simp [Array.getD, hi, Array.getElem_setIfInBounds, Ne.symm h]
    · simp [Array.getD, hi]
theorem Ev.max {x : Str} {e e' : Expr} {p pos : Pos} {a b : Int} (y : Ev (model prog w) s A env h (.Name x p) (Is (.builtin "max"))) (z : Ev (model prog w) s A env h e (IsI a)) (z' : Ev (model prog w) s A env h e' (IsI b)) (hh : A.handled = none)
    (he : starEach [e, e'] env = (false, eval e env) :: starEach [e'] env := by rfl) (he' : starEach [e'] env = (false, eval e' env) :: starEach [] env := by rfl) (hne : ∀ pos, (backTo pos (starEach [e, e'] env)).all (fun x => !x.1) = true := by intro _; rfl) : Ev (model prog w) s A env h (.Call (.Name x p) [e, e'] [] pos) (IsI (if b > a then b else a)) :=
  Ev.call y rfl (EvL.cons z (EvL.cons z' EvL.nil he') he) (fun vs h₁ _ hvs Q X q => by
    obtain ⟨v, r, rfl, ⟨t, rfl⟩, v', r', rfl, ⟨t', rfl⟩, rfl⟩ := hvs
    refine wpH_any fun tk => max_two_ints (s := stt s h₁ tk) hh fun h' tk' k => ⟨h', tk', rfl, q _ _ k fun _ _ => ?_⟩
    split
    · exact ⟨_, rfl⟩
    · exact ⟨_, rfl⟩) hne
theorem Ev.slice2 {e e' : Expr} {pos : Pos} {a b : Int} (z : Ev (model prog w) s A env h e (IsI a)) (z' : Ev (model prog w) s A env h e' (IsI b)) :
    Ev (model prog w) s A env h (.Slice (some e) (some e') none pos) (fun v h' => ∃ r t u, v = .ref r ∧ h'.get? r = some (slO (.int a t) (.int b u) .none)) := fun h₁ k₁ Q X q => by
  rw [arm_eval_Slice]
  refine wpH_bind (z h₁ k₁ _ _ fun v h₂ k₂ hv => wpH_bind (wpH_holding (z' h₂ (k₁.trans k₂) _ _ fun u h₃ k₃ hu => wpH_bind (wpH_holding (wpH_pure ?_)))))
  obtain ⟨t, rfl⟩ := hv _ Keep.rfl
  obtain ⟨t', rfl⟩ := hu _ Keep.rfl
  exact wpH_any fun tk => wpAny_newObj_type (s := stt s h₃ tk) ⟨_, _, rfl, q _ _ ((k₂.trans k₃).trans fun b o e => Heap.get?_push_of_some _ e) fun h₄ k₄ => ⟨_, t, t', rfl, k₄ _ _ (Heap.get?_push_size _ rfl)⟩⟩
/-- a new bytearray stored to a local -/
theorem asgB {x : Str} {p pos : Pos} {e : Expr} {b : Array UInt8} {Q : Flow → Heap → Prop} (F : Fra B L l N h) (y : Ev (model prog w) s A env h e (NewB h b))
    (q : ∀ a h', Fra B L (setL x (.ref a) l) ((a, ba b) :: N) h' → Q .next h') (hs : swapsWith e (some (.Name x p)) pos.line env = pure false := by rfl)
    (hL : env.locals = L := by rfl) (hl : env.kindOf x = some .local := by rfl) (hk : env.scope.kind = .function := by rfl) : wpH (model prog w) s A (exec (.Assign [.Name x p] e pos) env) Q X h :=
  wpH_Assign_Name (y.wp fun v h₁ k hv => by
    obtain ⟨a, rfl, hn, ha⟩ := hv _ Keep.rfl
    exact wpH_store (F.fresh k hn ha) (fun h' sb F' => q a h' F') hL hl hk) hs
theorem Ev.max' {p : Pos} (D : Md fa la ea lg ex mg mb h) (hg : env.globals = mainGlobals := by rfl) (hb : env.builtins = builtinsNs := by rfl) (hk : env.scope.kind = .function := by rfl) (hl : env.kindOf "max" = some .globalImplicit := by rfl) : Ev (model prog w) s A env h (.Name "max" p) (Is (.builtin "max")) :=
  Ev.blt D.gl (D.fr _ (by decide)) (by decide +kernel) hg hb hk hl
/-- gf_poly_add on two of one length -/
theorem con_add (D : Md fa la ea lg ex mg mb h) (R : Room A 2) {a c : Addr} {b d : Array UInt8} (ha : h.get? a = some (ba b)) (hc : h.get? c = some (ba d)) (hbd : d.size = b.size) (hb' : b.size ≤ 1000) :
    Con (model prog w) s A (fa 10) [.ref a, .ref c] h (fun v h' => ∃ r, r.size = b.size ∧ (∀ i, i < b.size → bAt r i = bAt b i ^^^ bAt d i) ∧ NewB h r v h') := by
  refine con_of (names := ["p", "q"]) D R (by decide) (fun _ _ _ => by rfl) (by decide) (locs (by rfl)) fun L pm cc doc h₁ Q X D₁ k₁ F R₁ q => ?_
  have ha₁ := k₁ _ _ ha
  have hc₁ := k₁ _ _ hc
  refine wpH_execs_cons (asgB F (Ev.baI (k := b.size) (Ev.glob D₁.gl D₁.bt) (Ev.max (Ev.max' D₁) (Ev.lenB (Ev.len' D₁) (Ev.locB F ha₁) (sz_of _ hb')) (Ev.lenB (Ev.len' D₁) (Ev.locB F hc₁) (sz_of _ (by omega))) R₁.hd) (by split <;> omega) hb' R₁.g) fun r h₂ F₂ => ?_)
  have D₂ := D.keeps F₂.keep
  have hr₂ := F₂.news _ (List.mem_cons_self ..)
  have ha₂ := F₂.keep _ _ ha
  have hc₂ := F₂.keep _ _ hc
  have hra : r ≠ a := fun e => by have := (F₂.apart _ (List.mem_cons_self ..)).1; rw [e, ha] at this; cases this
  have hsz : (Array.replicate b.size (0 : UInt8)).size = b.size := Array.size_replicate
  refine wpH_execs_cons (wpH_Assign_Subscript ((Ev.loc F₂).wp fun v h₃ k₃ hv => ((Ev.loc F₂).ext k₃).wp fun ov h₄ k₄ hov => (((Ev.slice2 (Ev.sub (Ev.lenB (Ev.len' D₂) (Ev.locB F₂ hr₂) (sz_of _ (by omega))) (Ev.lenB (Ev.len' D₂) (Ev.locB F₂ ha₂) (sz_of _ hb'))) (Ev.lenB (Ev.len' D₂) (Ev.locB F₂ hr₂) (sz_of _ (by omega)))).ext k₃).ext k₄).wp fun iv h₅ k₅ hiv => ?_))
  obtain rfl := hv _ Keep.rfl
  obtain rfl := hov _ Keep.rfl
  obtain ⟨sl, t1, t2, rfl, hsl⟩ := hiv _ Keep.rfl
  have F₅ := F₂.keeps ((k₃.trans k₄).trans k₅)
  rw [hsz, show ((b.size : Int) - (b.size : Int)) = 0 by omega] at hsl
  refine wpH_any fun tk => setSlice_ba (s := stt s h₅ tk) (F₅.news _ (List.mem_cons_self ..)) (F₅.keep _ _ ha) (by rw [hsz]; exact hsl) hra (by rw [hsz]) (by rw [hsz]; exact sz_of _ hb') fun h₆ hr₆ sb => ⟨h₆, _, rfl, ?_⟩
  have F₆ := F₅.upd sb hr₆ (List.mem_cons_self ..)
  rw [updN_head] at F₆
  have D₆ := D.keeps F₆.keep
  refine wpH_execs_cons (for_range (n := d.size) (a := 0) (S := Array UInt8) (fun _ _ => [("p", .ref a), ("q", .ref c), ("r", .ref r)]) (fun _ σ => [(r, ba σ)]) (fun k σ => σ.size = b.size ∧ ∀ i, i < b.size → bAt σ i = if i < k then bAt b i ^^^ bAt d i else bAt b i) b ⟨rfl, fun i hi => by simp⟩ (F₆.weak ⟨rfl, rfl, rfl, trivial⟩) R₁.hd (Ev.range1 (Ev.xr D₆) (Ev.lenB (Ev.len' D₆) (Ev.locB F₆ (F₆.keep _ _ hc)) (sz_of _ (by omega)))) (by omega) (by decide) (by omega) ?_ ?_)
  · rintro k σ B' ti h₇ hk ⟨hσ, hp⟩ hB F₇
    have D₇ := D.keeps (fun b o e => F₇.keep b o (hB b o e))
    have hc₇ := F₇.keep _ _ (hB _ _ hc)
    have hr₇ := F₇.news _ (List.mem_cons_self ..)
    refine wpH_execs_cons (augXor (n := k) F₇ (List.mem_cons_self ..) (bAt_lt d k) (Ev.loc F₇) (Ev.sub (Ev.add (Ev.locI F₇) (Ev.lenB (Ev.len' D₇) (Ev.locB F₇ hr₇) (sz_of _ (by omega)))) (Ev.lenB (Ev.len' D₇) (Ev.locB F₇ hc₇) (sz_of _ (by omega)))) (Ev.itemN (Ev.locB F₇ hc₇) (Ev.locI F₇) (n := k) (by omega) hk (by omega)) (by omega) (by omega) (by omega) fun h₈ F₈ => wpH_execs_nil ⟨rfl, σ.setIfInBounds k (bAt σ k ^^^ bAt d k).toUInt8, ⟨?_, fun i hi => ?_⟩, ?_⟩)
    · simpa using hσ
    · rw [bAt_set (by omega) (xor_lt (bAt_lt _ _) (bAt_lt _ _)), hp i hi]
      by_cases e : i = k
      · subst e; rw [if_pos rfl, hp i hi]; simp
      · rw [if_neg e]
        by_cases e' : i < k
        · rw [if_pos e', if_pos (by omega)]
        · rw [if_neg e', if_neg (by omega)]
    · rw [updN_head] at F₈
      exact F₈.weak ⟨rfl, rfl, rfl, trivial⟩
  · rintro σ h₇ ⟨hσ, hp⟩ F₇
    refine wpH_execs_cons (retE (Ev.loc F₇) fun v h₈ k₈ hv => q _ _ (Keep.trans F₇.keep k₈) fun h₉ k₉ => ⟨σ, hσ, fun i hi => ?_, r, hv _ k₉, (F₇.apart _ (List.mem_cons_self ..)).1, (k₈.trans k₉) _ _ (F₇.news _ (List.mem_cons_self ..))⟩)
    rw [hp i hi, if_pos (by omega)]
end
end Mine
namespace Mine
open PySem PySem.W PyProof.Rows PySem.Calls
open Sem (wp)
theorem Fra.swap {B : Addr → Option Obj} {L : Addr} {l : List (Str × Value)} {N : List (Addr × Obj)} {h : Heap} {x y : Addr × Obj} (F : Fra B L l (x :: y :: N) h) : Fra B L l (y :: x :: N) h := by
  have hm : ∀ p, p ∈ y :: x :: N → p ∈ x :: y :: N := fun p hp => by
    simp only [List.mem_cons] at hp ⊢
    rcases hp with a | a | a
    · exact .inr (.inl a)
    · exact .inl a
    · exact .inr (.inr a)
  refine ⟨F.ns, F.keep, fun p hp => F.news p (hm p hp), fun p hp => F.apart p (hm p hp), F.own, ?_⟩
  have := F.nodup
  simp only [List.map_cons, List.nodup_cons, List.mem_cons, not_or] at this ⊢
  exact ⟨⟨fun e => this.1.1 e.symm, this.2.1⟩, this.1.2, this.2.2⟩
/-- the product of two polynomials, place by place -/
def pmv (p q : Array UInt8) : Nat → Nat → Nat
  | 0, _ => 0
  | j + 1, m => pmv p q j m ^^^ (if j ≤ m ∧ m - j < p.size then gm (bAt p (m - j)) (bAt q j) else 0)
theorem pmv_lt (p q : Array UInt8) : ∀ j m, pmv p q j m < 256
  | 0, _ => by show 0 < 256; decide
  | j + 1, m => by
    unfold pmv
    refine xor_lt (pmv_lt p q j m) ?_
    split
    · exact gm_lt _ _
    · decide
theorem Tab.prod {lg ex : Array UInt8} (T : Tab lg ex) {x y : Nat} (hx : x ≠ 0) (hx' : x < 256) (hy : y ≠ 0) (hy' : y < 256) : bAt ex (bAt lg x + bAt lg y) = gm x y ∧ bAt lg x + bAt lg y < 510 := by
  have l1 := T.log hx hx'
  have l2 := T.log hy hy'
  have b1 := (glog_spec hx hx').1
  have b2 := (glog_spec hy hy').1
  unfold bAt
  rw [l1, l2]
  refine ⟨?_, by omega⟩
  rw [T.e _ (by omega)]
  unfold gm
  rw [if_neg (by omega)]
section
variable {prog : Program} {w : World} {s : Shared} {A : Around} {env : Env} {h : Heap} {X : Value → Heap → Prop} {B : Addr → Option Obj} {L : Addr} {l : List (Str × Value)} {N : List (Addr × Obj)} {fa : Nat → Addr} {la ea : Addr} {lg ex : Array UInt8} {mg mb : Str → Option Value}
theorem Ev.locL {x : Str} {pos : Pos} {a : Addr} {vs : List Value} {m : Nat} {ns : List Int} (F : Fra B L l N h) (ha : h.get? a = some (liO vs m)) (hi : IntsAre vs ns) (hv : l.lookup x = some (.ref a) := by rfl) (hL : env.locals = L := by rfl) (hk : env.scope.kind = .function := by rfl)
    (hl : env.kindOf x = some .local := by rfl) (hd : (x == ("__debug__" : Str)) = false := by decide) : Ev (model prog w) s A env h (.Name x pos) (IsIL ns) := (Ev.loc F hv hL hk hl hd).mono fun v h' k e => ⟨a, vs, e, liO_isList (k _ _ ha), hi⟩
theorem getD_mapRange (f : Nat → Int) {n k : Nat} (h : k < n) : ((List.range n).map f).getD k 0 = f k := by
  simp [List.getD_eq_getElem?_getD, h]
theorem con_pmul (D : Md fa la ea lg ex mg mb h) (R : Room A 2) {a c : Addr} {b d : Array UInt8} (ha : h.get? a = some (ba b)) (hc : h.get? c = some (ba d)) (hb0 : 0 < b.size) (hb' : b.size ≤ 400) (hd' : d.size ≤ 400) :
    Con (model prog w) s A (fa 11) [.ref a, .ref c] h (fun v h' => ∃ r, r.size = b.size + d.size - 1 ∧ (∀ i, i < b.size + d.size - 1 → bAt r i = pmv b d d.size i) ∧ NewB h r v h') := by
  have hlsz := D.tab.lsz
  have hesz := D.tab.esz
  refine con_ofC (names := ["p", "q"]) D R (by decide) (fun _ _ _ => by rfl) (fun L y hy => ?_) fun L pm cc doc h₁ Q X D₁ k₁ F R₁ q => ?_
  · simp only [List.zip_cons_cons, List.zip_nil_right, List.mem_cons, List.not_mem_nil, or_false] at hy
    rcases hy with rfl | rfl
    · exact .inr ⟨by rfl, L + 1, by rfl, none, .head _⟩
    · exact .inl (by rfl)
  have e : stepB (callEnvC (fdOf 11 .none pm cc doc) L (fa 11)) ([("p" : Str), "q"].zip [Value.ref a, Value.ref c]) [] (cellsN (L + 1) (fnAt 11).2.2.2.names) = ([(("q" : Str), Value.ref c)], [(L + 1, cellO (some (.ref a)))]) := by
    have h1 : (callEnvC (fdOf 11 .none pm cc doc) L (fa 11)).kindOf "p" = some .cell := by rfl
    have h2 : (callEnvC (fdOf 11 .none pm cc doc) L (fa 11)).kindOf "q" = some .local := by rfl
    have h3 : (callEnvC (fdOf 11 .none pm cc doc) L (fa 11)).cells.lookup ("p" : Str) = some (L + 1) := by rfl
    have h5 : cellsN (L + 1) (fnAt 11).2.2.2.names = [(L + 1, cellO none)] := by rfl
    simp [h5, stepB, h1, h2, h3, updN, setL]
  rw [e] at F
  have ha₁ := k₁ _ _ ha
  have hc₁ := k₁ _ _ hc
  refine wpH_execs_cons (asgB F (Ev.baI (k := b.size + d.size - 1) (Ev.glob D₁.gl D₁.bt) (Ev.sub (Ev.add (Ev.lenB (Ev.len' D₁) (Ev.isB (Ev.cell F (.head _)) ha₁) (sz_of _ (by omega))) (Ev.lenB (Ev.len' D₁) (Ev.locB F hc₁) (sz_of _ (by omega)))) Ev.int) (by omega) (by omega) R₁.g) fun r h₂ F₂ => ?_)
  have D₂ := D.keeps F₂.keep
  have ha₂ := F₂.keep _ _ ha
  refine wpH_execs_cons (asgComp (n := b.size) (item := fun k v => ∃ t, v = .int ((0 : Int) + k) t) F₂ (Ev.range1 (Ev.xr D₂) (Ev.lenB (Ev.len' D₂) (Ev.isB (Ev.cell F₂ (.tail _ (.head _))) ha₂) (sz_of _ (by omega)))) (fun v h₃ k₃ hv => walk_range hv (by omega) (by decide) (by omega) R₁.hd)
    (fun _ => true) (fun k => (bAt lg (bAt b k) : Nat)) (sz_of _ (by omega)) (by rfl) (by rfl) (fun C k v B' h' hk hi hB F' Q X q => tests_nil (q _ Keep.rfl)) (fun C k v B' h' hk hp hi hB F' => ?_) fun E vs m h₃ hvs F₃ => ?_)
  · obtain ⟨t', rfl⟩ := hi
    have kB : Keep h₂ h' := fun b o e => F'.keep b o (hB b o e)
    have := bAt_lt b k
    exact Ev.itemN (Ev.logs (D₂.keeps kB)) (Ev.itemN (Ev.isB (Ev.cellH (kB _ _ (F₂.news (L + 1, cellO (some (.ref a))) (.tail _ (.head _))))) (kB _ _ ha₂)) (Ev.locI F') (n := k) (by omega) hk (by omega)) rfl (by omega) (by omega)
  rw [accL_all] at hvs
  have F₃ := F₃.swap
  have D₃ := D.keeps F₃.keep
  have ha₃ := F₃.keep _ _ ha
  have hc₃ := F₃.keep _ _ hc
  have z0 : ∀ i, bAt (Array.replicate (b.size + d.size - 1) (0 : UInt8)) i = 0 := fun i => by
    unfold bAt
    by_cases hi : i < b.size + d.size - 1
    · simp [Array.getD, hi]
    · simp [Array.getD, hi]
  refine wpH_execs_cons (for_range (n := d.size) (a := 0) (S := Array UInt8) (fun _ _ => [("q", .ref c), ("r", .ref r), ("lp", .ref E)]) (fun _ σ => [(r, ba σ), (E, liO vs m), (L + 1, cellO (some (.ref a)))]) (fun j σ => σ.size = b.size + d.size - 1 ∧ ∀ i, i < b.size + d.size - 1 → bAt σ i = pmv b d j i) _ ⟨Array.size_replicate, fun i hi => z0 i⟩ (F₃.weak ⟨rfl, rfl, rfl, trivial⟩) R₁.hd (Ev.range1 (Ev.xr D₃) (Ev.lenB (Ev.len' D₃) (Ev.locB F₃ hc₃) (sz_of _ (by omega)))) (by omega) (by decide) (by omega) ?_ ?_)
  · rintro j σ B' tj h₄ hj ⟨hσ, hp⟩ hB F₄
    have D₄ := D.keeps (fun b o e => F₄.keep b o (hB b o e))
    have hc₄ := F₄.keep _ _ (hB _ _ hc)
    refine wpH_execs_cons (asgI F₄ (Ev.itemN (Ev.locB F₄ hc₄) (Ev.locI F₄) (n := j) (by omega) hj (by omega)) fun t₅ h₅ F₅ => ?_)
    refine wpH_execs_cons (iff (EvT.ne (Ev.locI F₅) Ev.int) (fun e h₆ k₆ => ?_) fun e h₆ k₆ => wpH_execs_nil (wpH_execs_nil ⟨rfl, σ, ⟨hσ, fun i hi => ?_⟩, (F₅.keeps k₆).weak ⟨rfl, rfl, rfl, trivial⟩⟩))
    · have F₆ := F₅.keeps k₆
      have D₆ := D₄.keeps (Keep.rfl)
      have D₆ := D.keeps (fun b o e => F₆.keep b o (hB b o e))
      have hj0 : bAt d j ≠ 0 := by simpa using e
      have hjl := bAt_lt d j
      refine wpH_execs_cons (asgI F₆ (Ev.itemN (Ev.logs D₆) (Ev.locI F₆) (n := bAt d j) rfl (by omega) (by omega)) fun t₇ h₇ F₇ => ?_)
      have D₇ := D.keeps (fun b o e => F₇.keep b o (hB b o e))
      have ha₇ := F₇.keep _ _ (hB _ _ ha)
      refine wpH_execs_cons (for_range (n := b.size) (a := 0) (S := Array UInt8) (fun _ _ => [("q", .ref c), ("r", .ref r), ("lp", .ref E), ("j", .int ((0 : Int) + j) tj), ("lq", .int (bAt lg (bAt d j) : Nat) t₇)]) (fun _ σ => [(r, ba σ), (E, liO vs m), (L + 1, cellO (some (.ref a)))])
        (fun i σ => σ.size = b.size + d.size - 1 ∧ ∀ x, x < b.size + d.size - 1 → bAt σ x = pmv b d j x ^^^ (if j ≤ x ∧ x - j < i then gm (bAt b (x - j)) (bAt d j) else 0)) σ ⟨hσ, fun x hx => by rw [hp x hx, if_neg (by omega), Nat.xor_zero]⟩ (F₇.weak ⟨rfl, rfl, rfl, rfl, rfl, trivial⟩) R₁.hd
        (Ev.range1 (Ev.xr D₇) (Ev.lenB (Ev.len' D₇) (Ev.isB (Ev.cell F₇ (.tail _ (.tail _ (.head _)))) ha₇) (sz_of _ (by omega)))) (by omega) (by decide) (by omega) ?_ ?_)
      · rintro i ρ B'' ti h₈ hi ⟨hρ, hq⟩ hB₂ F₈
        have D₈ := D.keeps (fun b o e => F₈.keep b o (hB₂ _ _ (hB b o e)))
        have ha₈ := F₈.keep _ _ (hB₂ _ _ (hB _ _ ha))
        have hE₈ := F₈.news (E, liO vs m) (.tail _ (.head _))
        have hil := bAt_lt b i
        refine wpH_execs_cons (iff (EvT.ne (Ev.itemN (Ev.isB (Ev.cell F₈ (.tail _ (.tail _ (.head _)))) ha₈) (Ev.locI F₈) (n := i) (by omega) hi (by omega)) Ev.int) (fun e h₉ k₉ => ?_) fun e h₉ k₉ => wpH_execs_nil (wpH_execs_nil ⟨rfl, ρ, ⟨hρ, fun x hx => ?_⟩, (F₈.keeps k₉).weak ⟨rfl, rfl, rfl, rfl, rfl, trivial⟩⟩))
        · have hi0 : bAt b i ≠ 0 := by simpa using e
          have F₉ := F₈.keeps k₉
          have D₉ := D₈.keeps k₉
          have hE₉ := k₉ _ _ hE₈
          obtain ⟨pr, pb⟩ := D.tab.prod hi0 hil hj0 hjl
          have lpi := Ev.itemL (prog := prog) (w := w) (s := s) (A := A.deeper (callEnvC (fdOf 11 .none pm cc doc) L (fa 11))) (env := callEnvC (fdOf 11 .none pm cc doc) L (fa 11)) (x := "lp") (p := ⟨0, 0, 0, 0⟩) (pos := ⟨0, 0, 0, 0⟩) (i := .Name "i" ⟨0, 0, 0, 0⟩) (k := (0 : Int) + i) (Ev.locL F₉ hE₉ hvs) (Ev.locI F₉) (by omega) (by simp; omega) (by simp; omega)
          refine wpH_execs_cons (augXor (n := i + j) (x := gm (bAt b i) (bAt d j)) F₉ (.head _) (gm_lt _ _) (Ev.loc F₉) (Ev.add (Ev.locI F₉) (Ev.locI F₉)) ?_ (by omega) (by omega) (by omega) fun h' F' => wpH_execs_nil (wpH_execs_nil ⟨rfl, ρ.setIfInBounds (i + j) (bAt ρ (i + j) ^^^ gm (bAt b i) (bAt d j)).toUInt8, ⟨by simpa using hρ, fun x hx => ?_⟩, ?_⟩))
          · rw [← pr]
            refine Ev.itemN (Ev.exps D₉) (Ev.add (Ev.itemL (Ev.locL F₉ hE₉ hvs) (Ev.locI F₉) (by omega) (by simp; omega) (by simp; omega)) (Ev.locI F₉)) ?_ (by omega) (by omega)
            rw [show ((0 : Int) + (i : Int)).toNat = i by omega, getD_mapRange _ hi]
            omega
          · rw [bAt_set (by omega) (xor_lt (bAt_lt _ _) (gm_lt _ _))]
            by_cases ex : x = i + j
            · subst ex
              rw [if_pos rfl, hq _ hx, if_neg (by omega), Nat.xor_zero, if_pos (by omega), show i + j - j = i by omega]
            · rw [if_neg ex, hq x hx]
              congr 1
              by_cases c1 : j ≤ x ∧ x - j < i
              · rw [if_pos c1, if_pos (by omega)]
              · rw [if_neg c1, if_neg (by omega)]
          · rw [updN_head] at F'
            exact F'.weak ⟨rfl, rfl, rfl, rfl, rfl, trivial⟩
        · have z : bAt b i = 0 := by simpa using e
          rw [hq x hx]
          congr 1
          by_cases c1 : j ≤ x ∧ x - j < i
          · rw [if_pos c1, if_pos (by omega)]
          · rw [if_neg c1]
            by_cases c2 : j ≤ x ∧ x - j < i + 1
            · rw [if_pos c2, show x - j = i by omega, z, gm_zero_left]
            · rw [if_neg c2]
      · rintro ρ h₈ ⟨hρ, hq⟩ F₈
        refine wpH_execs_nil (wpH_execs_nil ⟨rfl, ρ, ⟨hρ, fun x hx => hq x hx⟩, F₈.weak ⟨rfl, rfl, rfl, trivial⟩⟩)
    · have z : bAt d j = 0 := by simpa using e
      rw [hp i hi]
      show _ = pmv b d j i ^^^ _
      rw [z]
      simp [gm_zero_right]
  · rintro σ h₇ ⟨hσ, hp⟩ F₇
    exact wpH_execs_cons (retE (Ev.loc F₇) fun v h₈ k₈ hv => q _ _ (Keep.trans F₇.keep k₈) fun h₉ k₉ => ⟨σ, hσ, hp, r, hv _ k₉, (F₇.apart _ (List.mem_cons_self ..)).1, (k₈.trans k₉) _ _ (F₇.news _ (List.mem_cons_self ..))⟩)
end
end Mine
namespace Mine
open PySem PySem.W PyProof.Rows PySem.Calls
open Sem (wp)
theorem Fra.two {B : Addr → Option Obj} {L e i : Addr} {l : List (Str × Value)} {N : List (Addr × Obj)} {h h' : Heap} {oe oi oe' oi' : Obj} (F : Fra B L l ((e, oe) :: (i, oi) :: N) h)
    (kp : ∀ b o, b ≠ e → b ≠ i → h.get? b = some o → h'.get? b = some o) (he : h'.get? e = some oe') (hi : h'.get? i = some oi') : Fra B L l ((e, oe') :: (i, oi') :: N) h' := by
  have nd := F.nodup
  simp only [List.map_cons, List.nodup_cons, List.mem_cons, not_or] at nd
  have ae := F.apart _ (List.mem_cons_self ..)
  have ai := F.apart (i, oi) (.tail _ (.head _))
  have ne : ∀ b o, B b = some o → b ≠ e ∧ b ≠ i := fun b o x => ⟨fun z => (by rw [z, ae.1] at x; cases x), fun z => (by rw [z, ai.1] at x; cases x)⟩
  have nn : ∀ p ∈ N, p.1 ≠ e ∧ p.1 ≠ i := fun p hp => ⟨fun z => nd.1.2 (List.mem_map.mpr ⟨p, hp, z⟩), fun z => nd.2.1 (List.mem_map.mpr ⟨p, hp, z⟩)⟩
  refine ⟨let ⟨m, ⟨o, es, ep, x, r⟩, y⟩ := F.ns; ⟨m, ⟨o, es, ep, kp _ _ (Ne.symm ae.2) (Ne.symm ai.2) x, r⟩, y⟩, fun b o x => kp b o (ne b o x).1 (ne b o x).2 (F.keep b o x), fun p hp => ?_, fun p hp => ?_, F.own, by simpa using F.nodup⟩
  · rcases List.mem_cons.mp hp with rfl | hp
    · exact he
    · rcases List.mem_cons.mp hp with rfl | hp
      · exact hi
      · exact kp _ _ (nn p hp).1 (nn p hp).2 (F.news p (.tail _ (.tail _ hp)))
  · rcases List.mem_cons.mp hp with rfl | hp
    · exact ae
    · rcases List.mem_cons.mp hp with rfl | hp
      · exact ai
      · exact F.apart p (.tail _ (.tail _ hp))
abbrev enO (it : Addr) (k : Int) (old : Value) : Obj := { cls := .type "enumerate", dict := none, data := .fields #[.none, .bool false, .ref it, rawInt k, .none, old], slots := #[] }
abbrev IsEn (l : Addr) : Value → Heap → Prop := fun v h' => ∃ e it oi, v = .ref e ∧ e ≠ it ∧ h'.get? e = some (enO it 0 .none) ∧ h'.get? it = some oi ∧ oi.cls = .type "list_iterator" ∧ oi.data = .fields #[.ref l, .int 0 0]
section
variable {prog : Program} {w : World} {s : Shared} {A : Around} {env : Env} {h : Heap} {B : Addr → Option Obj} {L : Addr} {l : List (Str × Value)} {N : List (Addr × Obj)} {X X' : Value → Heap → Prop}
/-- for i, v in enumerate(xs) -/
theorem for_enum {xi xv : Str} {p pi pv pt pos cpos : Pos} {x1 : Nat} {f : Str} {arg : Expr} {body : List Stmt} {Q : Flow → Heap → Prop} {a : Addr} {vs : List Value} {ol : Obj} {ns : List Int}
    {S : Type} (lo : Nat → S → List (Str × Value)) (no : Nat → S → List (Addr × Obj)) (P : Nat → S → Prop) (σ₀ : S) (h0 : P 0 σ₀) (F : Fra B L (lo 0 σ₀) (no 0 σ₀) h) (hh : A.handled = none)
    (hf : Ev (model prog w) s A env h (.Name f p) (Is (.type "enumerate"))) (y : Ev (model prog w) s A env h arg (Is (.ref a))) (hB : B a = some ol) (hc : ol.cls = .type "list") (hd : ∃ m, ol.data = .seq vs.toArray m) (hi : IntsAre vs ns)
    (step : ∀ k σ B' t t' h₁, k < ns.length → P k σ → (∀ b o, B b = some o → B' b = some o) → Fra B' L (setL xv (.int (ns.getD k 0) t') (setL xi (.int k t) (lo k σ))) (no k σ) h₁ →
      wpH (model prog w) s A (execs body env) (fun f h₂ => f = .next ∧ ∃ σ', P (k + 1) σ' ∧ Fra B' L (lo (k + 1) σ') (no (k + 1) σ') h₂) X' h₁)
    (hX : ∀ e h', X' e h' → wpH (model prog w) s A (noteFrame e env) (fun _ h'' => backH (model prog w) s A env X e h'') (fun e' h'' => backH (model prog w) s A env X e' h'') h')
    (q : ∀ σ h₁, P ns.length σ → Fra B L (lo ns.length σ) (no ns.length σ) h₁ → Q .next h₁)
    (hsz : ns.length ≤ sizeLine)
    (he : starEach [arg] env = (false, eval arg env) :: starEach [] env := by rfl) (hne : ∀ pos, (backTo pos (starEach [arg] env)).all (fun x => !x.1) = true := by intro _; rfl)
    (hs : ∀ x, foldedSetIterable (.Call (.Name f p) [arg] [] cpos) env x = pure x := by intro _; rfl) (hL : env.locals = L := by rfl) (hli : env.kindOf xi = some .local := by rfl) (hlv : env.kindOf xv = some .local := by rfl) (hk : env.scope.kind = .function := by rfl) :
    wpH (model prog w) s A (exec (.For (.Tuple [.Name xi pi, .Name xv pv] x1 pt) (.Call (.Name f p) [arg] [] cpos) body [] pos) env) Q X h := by
  obtain ⟨m, hd⟩ := hd
  have isl : ∀ {h' : Heap}, h'.get? a = some ol → h'.IsList a vs.toArray := fun e => ⟨ol, e, hc, m, hd⟩
  rw [exec_For]
  refine wpH_bind (wpH_standAt (wpH_bind ?_))
  refine wpH_Call (hf h Keep.rfl _ _ fun fv h₁ k₁ hfv => ?_)
  obtain rfl := hfv _ Keep.rfl
  refine wpH_callWith_val rfl (hne _) (EvL.cons y EvL.nil he _ h₁ k₁ _ _ fun ws h₂ k₂ hws => ?_)
  obtain ⟨v, r, rfl, hv, hr⟩ := hws _ Keep.rfl
  obtain rfl : v = .ref a := hv
  obtain rfl : r = [] := hr
  have F₂ := F.keeps (k₁.trans k₂)
  refine wpH_any fun tk => call_enumerate_list (s := stt s h₂ tk) (isl (F₂.keep _ _ hB)) fun h₃ hen hit hsz₃ k₃ => ⟨h₃, _, rfl, ?_⟩
  refine wpH_bind (wpH_of_eq (hs _) (wpH_pure (wpH_bind (wpH_standAt (wpH_bind (wpH_holding ?_))))))
  refine wpH_any fun tk => wpAny_pyIter_enum (s := stt s h₃ tk) hen ⟨h₃, tk, rfl, ?_⟩
  obtain ⟨oi, hoi, oc, od⟩ := hit
  dsimp only [stt] at hen hoi k₃ od ⊢
  have nn : ∀ b, h₂.objs.size ≤ b → h₂.get? b = none := fun b hb => Heap.get?_none_of_le hb
  have F₃ : Fra B L (lo 0 σ₀) ((h₂.objs.size + 1, enO h₂.objs.size 0 .none) :: (h₂.objs.size, oi) :: no 0 σ₀) h₃ := by
    have G := F₂.fresh k₃ (nn _ (Nat.le_refl _)) hoi
    have hL2 : L ≠ h₂.objs.size + 1 := fun z => by
      obtain ⟨m, hn, _⟩ := F₂.ns
      have := hn.lt
      rw [z] at this
      exact absurd this (Nat.not_lt.mpr (Nat.le_succ _))
    refine ⟨G.ns, G.keep, fun p hp => ?_, fun p hp => ?_, G.own, ?_⟩
    · rcases List.mem_cons.mp hp with rfl | hp
      · exact hen
      · exact G.news p hp
    · rcases List.mem_cons.mp hp with rfl | hp
      · refine ⟨?_, Ne.symm hL2⟩
        cases e : B (h₂.objs.size + 1) with
        | none => rfl
        | some o => have := Heap.lt_size (F₂.keep _ _ e); exact absurd this (Nat.not_lt.mpr (Nat.le_succ _))
      · exact G.apart p hp
    · rw [List.map_cons, List.nodup_cons]
      refine ⟨fun hm => ?_, G.nodup⟩
      obtain ⟨p, hp, z⟩ := List.mem_map.mp hm
      have z' : p.1 = h₂.objs.size + 1 := z
      rcases List.mem_cons.mp hp with rfl | hp
      · exact Nat.ne_of_lt (Nat.lt_succ_self _) z'
      · have := Heap.lt_size (F₂.news p hp)
        rw [z'] at this
        exact absurd this (Nat.not_lt.mpr (Nat.le_succ _))
  generalize hE : h₂.objs.size + 1 = E at F₃ ⊢
  generalize hI : h₂.objs.size = I at F₃ od hoi hE ⊢
  have hEI : E ≠ I := by rw [← hE]; exact Nat.ne_of_gt (Nat.lt_succ_self _)
  have hBE : B E = none := (F₃.apart _ (List.mem_cons_self ..)).1
  have hBI : B I = none := (F₃.apart (I, oi) (.tail _ (.head _))).1
  have hlen : vs.length = ns.length := hi.length
  refine wpH_runOwn (codeH_for (X' := X') (fun k h' => ∃ σ old oi, P k σ ∧ oi.cls = .type "list_iterator" ∧ oi.data = .fields #[.ref a, .int k 0] ∧ Fra B L (lo k σ) ((E, enO I k old) :: (I, oi) :: no k σ) h') ns.length ?_ ?_ hX ⟨σ₀, .none, oi, h0, oc, by simpa using od, by simpa using F₃⟩)
  · rintro k h₄ hkn ⟨σ, old, oi, hP, oc, od, F₄⟩
    have he₄ := F₄.news _ (List.mem_cons_self ..)
    have hi₄ := F₄.news (I, oi) (.tail _ (.head _))
    obtain ⟨t', hv⟩ := intsAre_get hi k hkn
    refine wpH_any fun tk => wpAny_pyNext_enum_item (s := stt s h₄ tk) he₄ ⟨oi, hi₄, oc, od⟩ (isl (F₄.keep _ _ hB)) (by simpa using hv) hEI fun h₅ heo hit₅ ht₅ hz₅ k₅ => ⟨h₅, _, rfl, _, rfl, ?_⟩
    refine wpH_any fun tk' => wpAny_letOwnedTupleGo_enum (s := stt s h₅ tk') heo fun h₆ he₆ sb₆ => ⟨h₆, _, rfl, ?_⟩
    dsimp only [stt] at ht₅ hz₅ k₅ sb₆ ⊢
    obtain ⟨oi', hi₅, oc', od'⟩ := hit₅
    have ltE : E < h₄.objs.size := Heap.lt_size he₄
    have hT₆ : h₆.IsTuple h₄.objs.size #[.int k tk, .int (ns.getD k 0) t'] := ⟨_, (sb₆.2 _ (Nat.ne_of_gt ltE)).trans ht₅, rfl, _, rfl⟩
    have F₆ : Fra B L (lo k σ) ((E, enO I ((k : Int) + 1) (.int (ns.getD k 0) t')) :: (I, oi') :: no k σ) h₆ :=
      F₄.two (fun b o h1 h2 x => (sb₆.2 b h1).trans (k₅ b o h1 h2 x)) he₆ ((sb₆.2 _ (Ne.symm hEI)).trans hi₅)
    refine wpH_any fun tk'' => wpAny_assign_Tuple (s := stt s h₆ tk'') hh hT₆ rfl rfl fun h₇ x₇ => ?_
    have F₇ := F₆.keeps (h' := h₇) fun b o e => x₇ b o (Nat.ne_of_lt (Heap.lt_size e)) e
    have F₈ := F₇.freeze.freeze
    have hp : (env.scope.kind == .class || (env.scope.kind == .module && env.locals != env.globals)) = false := by rw [hk]; rfl
    obtain ⟨m₈, hn₈, hm₈⟩ := F₈.ns
    subst hL
    show wpAny _ A (do holding [.int (ns.getD k 0) t'] (assign (.Name xi pi) env (.int k tk)); do holding [] (assign (.Name xv pv) env (.int (ns.getD k 0) t')); pure ()) _ _ _
    refine wpAny_bind (wpAny_holding (wpAny_assign_Name (wpAny_storeName_local hli hn₈ (fun h₈ hn₉ hs₉ => ?_) hp)))
    have F₉ := F₈.stored hm₈ hn₉ hs₉
    obtain ⟨m₉, hn₉', hm₉⟩ := F₉.ns
    refine wpAny_bind (wpAny_holding (wpAny_assign_Name (wpAny_storeName_local hlv hn₉' (fun h₉ hn₁₀ hs₁₀ => wpAny_pure ⟨h₉, _, rfl, ?_⟩) hp)))
    have F₁₀ := F₉.stored hm₉ hn₁₀ hs₁₀
    refine wpH_post (step k σ _ tk t' h₉ hkn hP (fun b o e => ?_) F₁₀) fun f h₁₀ ⟨hf, σ', hP', F₁₁⟩ => ⟨hf, σ', .int (ns.getD k 0) t', oi', hP', oc', by rw [od'], ?_⟩
    · have h1 : b ≠ E := fun z => by rw [z, hBE] at e; cases e
      have h2 : b ≠ I := fun z => by rw [z, hBI] at e; cases e
      simp only [h1, h2, if_false]; exact e
    · have := (F₁₁.melt (B := fun b => if b = E then some (enO I ((k : Int) + 1) (.int (ns.getD k 0) t')) else B b) (by simp only [Ne.symm hEI, if_false]; exact hBI)).melt hBE
      rw [show ((k + 1 : Nat) : Int) = (k : Int) + 1 by omega]
      exact this.swap.swap
  · rintro h₄ ⟨σ, old, oi, hP, oc, od, F₄⟩
    have he₄ := F₄.news _ (List.mem_cons_self ..)
    have hi₄ := F₄.news (I, oi) (.tail _ (.head _))
    refine wpH_any fun tk => wpAny_pyNext_enum_end (s := stt s h₄ tk) hh he₄ ⟨oi, hi₄, oc, od⟩ (isl (F₄.keep _ _ hB)) (by simp [hlen]) fun h₅ eb => ⟨h₅, _, rfl, rfl, q σ h₅ hP ?_⟩
    exact (F₄.swap.extBut eb).tail
end
end Mine
namespace Mine
open PySem PySem.W PyProof.Rows PySem.Calls
open Sem (wp)
/-- the law's own sums -/
def bitsum (c : Nat) (sh : Int) : Nat → Nat
  | 0 => 0
  | b + 1 => bitsum c sh b ^^^ (if c / 2 ^ b % 2 = 1 then gexp ((sh + b).fmod 255).toNat else 0)
def lawv (os : List Nat) (e : Int) : Nat → Nat
  | 0 => 0
  | k + 1 => lawv os e k ^^^ bitsum (os.getD k 0) (e * ((os.length : Int) - 1 - k)) 8
def nI (os : List Nat) : List Int := os.map fun (n : Nat) => (n : Int)
theorem nI_len (os : List Nat) : (nI os).length = os.length := List.length_map ..
theorem nI_get (os : List Nat) (k : Nat) : (nI os).getD k 0 = ((os.getD k 0 : Nat) : Int) := by
  unfold nI
  simp only [List.getD_eq_getElem?_getD, List.getElem?_map]
  cases os[k]? <;> rfl
def tabL : List Nat := (List.range 255).map gexp
theorem tabL_get {k : Nat} (h : k < 255) : tabL.getD k 0 = gexp k := by
  unfold tabL
  simp [List.getD_eq_getElem?_getD, h]
section
variable {prog : Program} {w : World} {s : Shared} {A : Around} {env : Env} {h : Heap} {X : Value → Heap → Prop} {B : Addr → Option Obj} {L : Addr} {l : List (Str × Value)} {N : List (Addr × Obj)} {fa : Nat → Addr} {la ea : Addr} {lg ex : Array UInt8} {mg mb : Str → Option Value}
theorem Ev.rg {p : Pos} (D : Md fa la ea lg ex mg mb h) (hg : env.globals = mainGlobals := by rfl) (hb : env.builtins = builtinsNs := by rfl) (hk : env.scope.kind = .function := by rfl) (hl : env.kindOf "range" = some .globalImplicit := by rfl) : Ev (model prog w) s A env h (.Name "range" p) (Is (.type "range")) :=
  Ev.blt D.gl (D.fr _ (by decide)) (by decide +kernel) hg hb hk hl
theorem Ev.enu {p : Pos} (D : Md fa la ea lg ex mg mb h) (hg : env.globals = mainGlobals := by rfl) (hb : env.builtins = builtinsNs := by rfl) (hk : env.scope.kind = .function := by rfl) (hl : env.kindOf "enumerate" = some .globalImplicit := by rfl) : Ev (model prog w) s A env h (.Name "enumerate" p) (Is (.type "enumerate")) :=
  Ev.blt D.gl (D.fr _ (by decide)) (by decide +kernel) hg hb hk hl
theorem Ev.isL {e : Expr} {a : Addr} {vs : List Value} {ns : List Int} (x : Ev (model prog w) s A env h e (Is (.ref a))) (ha : h.IsList a vs.toArray) (hi : IntsAre vs ns) : Ev (model prog w) s A env h e (IsIL ns) := x.mono fun v h' k e => ⟨a, vs, e, let ⟨o, e1, e2⟩ := ha; ⟨o, k _ _ e1, e2⟩, hi⟩
theorem noPy_small {x y : Int} (h : y.natAbs < 2 ^ 300) : Builtin.divisionGoesByPylong x y = false := by
  unfold Builtin.divisionGoesByPylong
  have e : (if y == 0 then 0 else y.natAbs.log2 / 30 + 1) ≤ 300 := by
    split
    · decide
    · rename_i hy
      have : y.natAbs ≠ 0 := by
        intro z; have : y = 0 := by omega
        simp [this] at hy
      have := (Nat.log2_lt this).mpr h
      omega
  simp only [Bool.and_eq_false_iff, decide_eq_false_iff_not]
  left; omega
theorem con_value (D : Md fa la ea lg ex mg mb h) (R : Room A 1) {a c : Addr} {vs us : List Value} {os : List Nat} {e : Int} {t : Tok} (ha : h.IsList a vs.toArray) (hi : IntsAre vs (nI os)) (hc : h.IsList c us.toArray) (hj : IntsAre us (nI tabL)) (hos : os.length ≤ 100) (ho8 : ∀ o ∈ os, o < 256) :
    Con (model prog w) s A (fa 15) [.ref a, .int e t, .ref c] h (IsI (lawv os e os.length : Nat)) := by
  refine con_of (names := ["octets", "exponent", "table"]) D R (by decide) (fun _ _ _ => by rfl) (by decide) (locs (by rfl)) fun L pm cc doc h₁ Q X D₁ k₁ F R₁ q => ?_
  have kl : ∀ {b : Addr} {xs : List Value} {g : Heap}, h.IsList b xs.toArray → Keep h g → g.IsList b xs.toArray := fun ⟨o, e1, e2⟩ k => ⟨o, k _ _ e1, e2⟩
  refine wpH_execs_cons (asgI F Ev.int fun t₂ h₂ F₂ => ?_)
  have D₂ := D.keeps F₂.keep
  obtain ⟨ol, hol, hcl, hdl⟩ := id ha
  refine wpH_execs_cons (for_enum (S := Tok) (X' := noX) (fun k t' => [("table", .ref c), ("exponent", .int e t), ("octets", .ref a), ("whole", .int (lawv os e k : Nat) t')]) (fun _ _ => []) (fun _ _ => True) t₂ trivial (F₂.weak ⟨rfl, rfl, rfl, rfl, trivial⟩) R₁.hd (Ev.enu D₂) (Ev.loc F₂) hol hcl hdl hi ?_ (fun _ _ z => z.elim) ?_ (by rw [nI_len]; exact sz_of _ (by omega)))
  · intro k t' B' tk tv h₃ hk _ hB F₃
    have kB : Keep h h₃ := fun b o e => F₃.keep b o (hB b o e)
    have D₃ := D.keeps kB
    rw [nI_len] at hk
    rw [nI_get] at F₃
    have ho := ho8 (os.getD k 0) (by simp [List.getD_eq_getElem?_getD, hk])
    refine wpH_execs_cons (asgI F₃ (Ev.mul (Ev.locI F₃) (Ev.sub (Ev.sub (Ev.lenL (Ev.len' D₃) (Ev.isL (Ev.loc F₃) (kl ha kB) hi) (by rw [nI_len]; omega)) Ev.int) (Ev.locI F₃)) (.of_right (bits_small (by rw [nI_len]; omega) (by rw [nI_len]; omega)))) fun t₄ h₄ F₄ => ?_)
    rw [nI_len] at F₄
    have kB₄ : Keep h h₄ := fun b o e => F₄.keep b o (hB b o e)
    have D₄ := D.keeps kB₄
    refine wpH_execs_cons (for_range (n := 8) (a := 0) (S := Tok) (fun b t'' => [("table", .ref c), ("exponent", .int e t), ("octets", .ref a), ("octet", .int (os.getD k 0 : Nat) tv), ("shift", .int (e * ((os.length : Int) - 1 - k)) t₄), ("whole", .int (lawv os e k ^^^ bitsum (os.getD k 0) (e * ((os.length : Int) - 1 - k)) b : Nat) t'')]) (fun _ _ => []) (fun _ _ => True) t' trivial (F₄.weak ⟨rfl, rfl, rfl, rfl, rfl, by rw [show bitsum (os.getD k 0) (e * ((os.length : Int) - 1 - k)) 0 = 0 from rfl, Nat.xor_zero]; rfl, trivial⟩) R₁.hd (Ev.range1 (Ev.rg D₄) Ev.int) (by decide) (by decide) (by decide) ?_ ?_)
    · intro b t'' B'' tb h₅ hb _ hB₂ F₅
      have kB₅ : Keep h h₅ := fun b o e => F₅.keep b o (hB₂ _ _ (hB b o e))
      have D₅ := D.keeps kB₅
      have ptwo : ((2 : Int) ^ ((0 : Int) + (b : Int)).toNat) = ((2 ^ b : Nat) : Int) := by rw [show ((0 : Int) + (b : Int)).toNat = b by omega]; simp
      have p2 : 2 ^ b ≤ 2 ^ 8 := Nat.pow_le_pow_right (by decide) (by omega)
      have p0 : 0 < 2 ^ b := Nat.pow_pos (by decide)
      have hcond : ((((os.getD k 0 : Nat) : Int).fdiv ((2 : Int) ^ ((0 : Int) + (b : Int)).toNat)).fmod 2 == 1) = decide (os.getD k 0 / 2 ^ b % 2 = 1) := by
        rw [ptwo, Int.fdiv_eq_ediv_of_nonneg _ (by omega), Int.fmod_eq_emod_of_nonneg _ (by omega)]
        rw [← Int.natCast_ediv]
        have : (((os.getD k 0 / 2 ^ b : Nat) : Int) % 2) = ((os.getD k 0 / 2 ^ b % 2 : Nat) : Int) := by omega
        rw [this, Bool.eq_iff_iff]
        simp only [beq_iff_eq, decide_eq_true_eq]
        omega
      have step : bitsum (os.getD k 0) (e * ((os.length : Int) - 1 - k)) (b + 1) = bitsum (os.getD k 0) (e * ((os.length : Int) - 1 - k)) b ^^^ (if os.getD k 0 / 2 ^ b % 2 = 1 then gexp ((e * ((os.length : Int) - 1 - k) + b).fmod 255).toNat else 0) := rfl
      refine wpH_execs_cons (iff (EvT.eq (Ev.mod (Ev.fdiv (Ev.locI F₅) (Ev.pow Ev.int (Ev.locI F₅) (by omega) ?_) (by rw [ptwo]; omega) (noPy_small ?_)) Ev.int (by decide)) Ev.int) (fun ec h₆ k₆ => ?_) fun ec h₆ k₆ => wpH_execs_nil (wpH_execs_nil ⟨rfl, t'', trivial, ?_⟩))
      · have : Builtin.Int.intBits 2 = 2 := by decide +kernel
        rw [this]; omega
      · rw [ptwo, Int.natAbs_natCast]
        exact Nat.lt_of_le_of_lt p2 (by decide)
      · rw [hcond] at ec
        have hc1 : os.getD k 0 / 2 ^ b % 2 = 1 := by simpa using ec
        have F₆ := F₅.keeps k₆
        have kB₆ := kB₅.trans k₆
        have r := fmod_range (e * ((os.length : Int) - 1 - k) + ((0 : Int) + b)) (n := 255) (by omega)
        have tl : tabL.length = 255 := by simp [tabL]
        refine wpH_execs_cons (asgI F₆ (i := (lawv os e k ^^^ bitsum (os.getD k 0) (e * ((os.length : Int) - 1 - k)) (b + 1) : Nat)) ?_ fun t₇ h₇ F₇ => wpH_execs_nil (wpH_execs_nil ⟨rfl, t₇, trivial, F₇.weak ⟨rfl, rfl, rfl, rfl, rfl, rfl, trivial⟩⟩))
        rw [step, if_pos hc1, ← Nat.xor_assoc]
        refine Ev.xorN (Ev.locI F₆) ?_
        refine (Ev.itemL (Ev.isL (Ev.loc F₆) (kl hc kB₆) hj) (Ev.mod (Ev.add (Ev.locI F₆) (Ev.locI F₆)) Ev.int (by decide)) r.1 (by rw [nI_len, tl]; omega) (by rw [nI_len, tl]; decide)).mono fun v h' k' hv => ?_
        rw [nI_get, tabL_get (by omega)] at hv
        rw [show ((0 : Int) + (b : Int)) = (b : Int) by omega] at hv
        exact hv
      · rw [hcond] at ec
        have hc1 : ¬ os.getD k 0 / 2 ^ b % 2 = 1 := by simpa using ec
        rw [step, if_neg hc1, Nat.xor_zero]
        exact (F₅.keeps k₆).weak ⟨rfl, rfl, rfl, rfl, rfl, rfl, trivial⟩
    · intro t'' h₅ _ F₅
      exact wpH_execs_nil ⟨rfl, t'', trivial, F₅.weak ⟨rfl, rfl, rfl, rfl, trivial⟩⟩
  · intro t' h₃ _ F₃
    rw [nI_len] at F₃
    exact wpH_execs_cons (retE (Ev.locI F₃) fun v h₄ k₄ hv => q _ _ (Keep.trans F₃.keep k₄) hv)
end
end Mine
namespace Mine
open PySem PySem.W PyProof.Rows PySem.Calls
open Sem (wp)
/-! ## A raised ZeroDivisionError on its way -/
abbrev zde : Value := .type "ZeroDivisionError"
def XF (base : Heap) (outer : List Env) (hS : Heap) : Value → Heap → Prop := fun e h' => ∃ ea a0, e = .ref ea ∧ Heap.FlyingW base outer ea zde a0 h' ∧ hS.UpToSlots h'
section
variable {prog : Program} {w : World} {s : Shared} {A : Around} {env : Env} {h : Heap} {fa : Nat → Addr} {la ea : Addr} {lg ex : Array UInt8} {mg mb : Str → Option Value}
theorem Ev.zde {p : Pos} (D : Md fa la ea lg ex mg mb h) (hg : env.globals = mainGlobals := by rfl) (hb : env.builtins = builtinsNs := by rfl) (hk : env.scope.kind = .function := by rfl) (hl : env.kindOf "ZeroDivisionError" = some .globalImplicit := by rfl) : Ev (model prog w) s A env h (.Name "ZeroDivisionError" p) (Is (.type "ZeroDivisionError")) :=
  Ev.blt D.gl (D.fr _ (by decide)) (by decide +kernel) hg hb hk hl
/-- gf_div where the divisor is not nought -/
theorem con_div (D : Md fa la ea lg ex mg mb h) (R : Room A 1) {x y : Nat} {t u : Tok} (hx : x < 256) (hy : y < 256) (hy0 : y ≠ 0) : Con (model prog w) s A (fa 6) [.int x t, .int y u] h (IsI (gd x y : Nat)) := by
  have hl := D.tab.lsz
  have he := D.tab.esz
  refine con_of (names := ["x", "y"]) D R (by decide) (fun _ _ _ => by rfl) (by decide) (locs (by rfl)) fun L pm c doc h₁ Q X D₁ k₁ F _ q => ?_
  refine wpH_execs_cons (iff (EvT.eq (Ev.locI F) Ev.int) (fun e => absurd e (by simp; omega)) fun e h₂ k₂ => wpH_execs_nil ?_)
  have F₂ := F.keeps k₂
  refine wpH_execs_cons (iff (EvT.eq (Ev.locI F₂) Ev.int) (fun e h₃ k₃ => ?_) fun e h₃ k₃ => wpH_execs_nil ?_)
  · refine wpH_execs_cons (retE Ev.int fun v h₄ k₄ hv => q _ _ (((k₁.trans k₂).trans k₃).trans k₄) fun h₅ k₅ => ?_)
    obtain ⟨t', rfl⟩ := hv _ Keep.rfl
    have : x = 0 := by simp at e; omega
    subst this
    exact ⟨t', rfl⟩
  · have hx0 : x ≠ 0 := by simp at e; omega
    have F₃ := F₂.keeps k₃
    have D₃ := (D₁.keeps k₂).keeps k₃
    have l1 := D.tab.log hx0 hx
    have l2 := D.tab.log hy0 hy
    have b1 := (glog_spec hx0 hx).1
    have b2 := (glog_spec hy0 hy).1
    refine wpH_execs_cons (retE (Ev.itemN (n := (glog x + 255 - glog y) % 255) (Ev.exps D₃) (Ev.mod (Ev.sub (Ev.add (Ev.itemN (n := x) (Ev.logs D₃) (Ev.locI F₃) rfl (by omega) (by omega)) (Ev.fc D₃)) (Ev.itemN (n := y) (Ev.logs D₃) (Ev.locI F₃) rfl (by omega) (by omega))) (Ev.fc D₃) (by decide)) ?_ (by omega) (by omega)) fun v h₄ k₄ hv => q _ _ (((k₁.trans k₂).trans k₃).trans k₄) fun h₅ k₅ => ?_)
    · unfold bAt
      rw [l1, l2, Int.fmod_eq_emod_of_nonneg _ (by omega)]
      omega
    · have := hv _ k₅
      unfold bAt at this
      rw [D.tab.e _ (by omega), Nat.mod_mod] at this
      unfold gd
      rw [if_neg hx0]
      exact this
/-- gf_div where it is -/
theorem div_zero (D : Md fa la ea lg ex mg mb h) (R : Room A 1) {base : Heap} {outer : List Env} (hfr : A.frames = some outer) (hb : base.StaysIn h) (hl : h.FunFrames base outer) {x : Nat} {t u : Tok} {Q : Value → Heap → Prop} :
    wpH (model prog w) s A (PySem.call (.ref (fa 6)) [.int x t, .int 0 u]) Q (XF base outer h) h := by
  obtain ⟨o, dV, pm, c, doc, h1, h2, h3, h4⟩ := (D.fn 6 (by decide)).2.at'
  obtain rfl := h4 rfl
  refine callH (binds := [("x", .int x t), ("y", .int 0 u)]) (by have := R.d; omega) h1 h2 D.gl.lim h3 rfl (fun tk => .of_eq (by rfl)) (show ∀ x ∈ (fnAt 6).2.2.2.names, x.2 ≠ .cell by decide) (locs (by rfl)) (fun L h₁ G => ?_) rfl rfl rfl
  have D₁ := D.keeps G.keep
  refine wpH_execs_cons (iff (EvT.eq (Ev.locI G) Ev.int) (fun e h₂ k₂ => ?_) fun e => by simp at e)
  have D₂ := D₁.keeps k₂
  have G₂ := G.keeps k₂
  obtain ⟨m, hn, _⟩ := G₂.ns
  have hfr' : (A.deeper (callEnv (fdOf 6 .none pm (.ref c) doc) L (fa 6))).frames = some (callEnv (fdOf 6 .none pm (.ref c) doc) L (fa 6) :: outer) := Around.frames_deeper hfr
  have hLb : base.get? L = none := by
    cases e : base.get? L with
    | none => rfl
    | some o => have := G.own; rw [hb _ _ e] at this; cases this
  have hl' : h₂.FunFrames base (callEnv (fdOf 6 .none pm (.ref c) doc) L (fa 6) :: outer) := .cons (by show (fnAt 6).2.2.2.kind ≠ .module; decide) rfl hn hLb (hl.of_keeps fun b o e _ => ⟨o, G₂.keep _ _ e, rfl⟩)
  refine wpH_execs_cons (wpH_any fun tk => wpAny_Raise_call F.excCall_ZeroDivisionError F.excRaise_ZeroDivisionError R.hd rfl ?_)
  refine Name_function_global (env := callEnv (fdOf 6 .none pm (.ref c) doc) L (fa 6)) (by rfl) (by rfl) (loadGlobal_builtin (env := callEnv (fdOf 6 .none pm (.ref c) doc) L (fa 6)) (s := stt s h₂ tk) D₂.gl.g (D₂.fr _ (by decide)) D₂.gl.b ((D₂.gl.blt _ (by decide)).trans (by decide +kernel)) ⟨rfl, PySem.evalArgs_none ⟨rfl, Nat.zero_le _, fun h₃ e hm => ⟨h₃, tk, rfl, ?_⟩⟩⟩)
  refine wpH_any fun tk => wpAny_leaves_madeW (s := stt s h₃ tk) hfr' rfl (fun b o x => G₂.keep _ _ (hb _ _ x)) hl' hm.of fun h₄ t' hfl _ _ up => ⟨h₄, _, rfl, e, .ref t', rfl, hfl, ?_⟩
  exact (Heap.UpToSlots.of_keeps fun b o x => hm.keeps _ _ (G₂.keep _ _ x)).trans up
end
end Mine
namespace Mine
open PySem PySem.W PyProof.Rows PySem.Calls
open Sem (wp)
def HF (base : Heap) (envs : List Env) (L : Addr) (hS : Heap) : Value → Heap → Prop := fun e h' => ∃ ea a0, e = .ref ea ∧ Heap.HeldW base envs ea zde a0 L h' ∧ hS.UpToSlots h'
theorem XF.upto {base : Heap} {envs : List Env} {hS hS' : Heap} {e : Value} {h' : Heap} (x : XF base envs hS e h') (u : hS'.UpToSlots hS) : XF base envs hS' e h' := let ⟨a, b, c, d, f⟩ := x; ⟨a, b, c, d, u.trans f⟩
section
variable {prog : Program} {w : World} {s : Shared} {A : Around} {env : Env} {h : Heap}
theorem note_XF {base : Heap} {outer : List Env} {L : Addr} {hS h' : Heap} {e : Value} {X : Value → Heap → Prop} (x : XF base (env :: outer) hS e h') (hfr : A.frames = some (env :: outer)) (hf : env.frame = some L) :
    wpH (model prog w) s A (noteFrame e env) (fun _ h'' => HF base (env :: outer) L hS e h'') X h' := by
  obtain ⟨ea, a0, rfl, hfl, up⟩ := x
  exact wpH_any fun tk => wpAny_looks_onW (s := stt s h' tk) hfr hf hfl fun h'' hh up' => ⟨h'', tk, rfl, ea, a0, rfl, hh, up.trans up'⟩
theorem back_HF {base : Heap} {envs : List Env} {L : Addr} {hS h' : Heap} {e : Value} (x : HF base envs L hS e h') (hf : env.frame = some L) : backH (model prog w) s A env (HF base envs L hS) e h' := by
  obtain ⟨ea, a0, rfl, ⟨f1, f2, f3, f4⟩, up⟩ := x
  obtain ⟨oe, vs, T, oT, ts, he, hcls, hd, h1, hnT, hTe, hT, hdT, h3⟩ := f4
  unfold backH
  refine wpH_any fun tk => ?_
  refine wpAny_bind (wpAny_field (s := stt s h' tk) he hd h1 ?_)
  rw [if_neg (by intro x; cases x), hf]
  have hsz3 : 3 < ts.size := (Array.getElem?_eq_some_iff.mp h3).1
  have other : ∀ b, b ≠ T → (h'.update T (Obj.mapFields (·.setIfInBounds 3 ((some L : Option Addr).elim Value.none fun f => rawInt f)))).get? b = h'.get? b :=
    fun b hb => Heap.get?_update_other _ _ (Ne.symm hb)
  have noRecord : ∀ b o, h'.get? b = some o → (∀ vs, o.data ≠ .fields vs) → b ≠ T := fun b o hb hnf q => by
    rw [q, hT] at hb; injection hb with hb; subst hb; exact hnf ts hdT
  unfold setFlight
  refine wpAny_bind (wpAny_field (s := stt s h' tk) he hd h1 ?_)
  rw [if_pos (show (Value.ref T != Value.none) = true from by simp)]
  refine wpAny_setField (s := stt s h' tk) hT hdT hsz3 ⟨_, tk, rfl, ea, a0, rfl, ⟨fun b o hbo => (other b fun q => by rw [q, hnT] at hbo; cases hbo).trans (f1 b o hbo), f2,
    f3.of_keeps fun b o hb hnf => ⟨o, (other b (noRecord b o hb hnf)).trans hb, rfl⟩, ?_⟩, up.trans fun b o hb hnf => ⟨o.slots, (other b (noRecord b o hb hnf)).trans hb⟩⟩
  exact ⟨oe, vs, T, _, _, (other ea (Ne.symm hTe)).trans he, hcls, hd, h1, hnT, hTe, Heap.get?_update_self _ hT (Obj.isFreed_of_fields (Obj.data_mapFields hdT _)), Obj.data_mapFields hdT _, by simp [hsz3]⟩
theorem leave_HF {base : Heap} {outer : List Env} {L : Addr} {hS hS' h' : Heap} {e : Value} {X : Value → Heap → Prop} (x : HF base (env :: outer) L hS e h') (hf : env.frame = some L) (u : hS'.UpToSlots hS) :
    wpH (model prog w) s A (leaving env e) (fun _ h'' => XF base outer hS' e h'') X h' := by
  obtain ⟨ea, a0, rfl, hh, up⟩ := x
  refine wpH_any fun tk => ?_
  unfold leaving
  refine wpAny_bind (wpAny_noteFrame_againW (s := stt s h' tk) hf hh.2.2.2 ?_)
  refine wpAny_landsW (s := stt s h' tk) hh fun h'' hfl up' => ⟨h'', tk, rfl, ea, a0, rfl, ?_, (u.trans up).trans up'⟩
  obtain ⟨k1, k2, ⟨_, _, k3⟩, k4⟩ := hfl
  exact ⟨k1, k2, k3, k4⟩
end
end Mine
namespace Mine
open PySem PySem.W PyProof.Rows PySem.Calls
open Sem (wp)
/-! ## Lagrange's way, as the law reckons it -/
def mul1 (p : List Nat) (t : Nat) : List Nat := (List.range (p.length + 1)).map fun m => p.getD m 0 ^^^ (if m = 0 then 0 else gm (p.getD (m - 1) 0) t)
def lagP (xs : List Nat) (i : Nat) : Nat → List Nat
  | 0 => [1]
  | j + 1 => if j = i then lagP xs i j else mul1 (lagP xs i j) (xs.getD j 0)
def lagB (xs : List Nat) (i : Nat) : Nat → Nat
  | 0 => 1
  | j + 1 => if j = i then lagB xs i j else gm (lagB xs i j) (xs.getD i 0 ^^^ xs.getD j 0)
def lagW (xs ys : List Nat) : Nat → List Nat
  | 0 => List.replicate xs.length 0
  | i + 1 => (List.range xs.length).map fun m => (lagW xs ys i).getD m 0 ^^^ gm ((lagP xs i xs.length).getD m 0) (gd (ys.getD i 0) (lagB xs i xs.length))
def AL (b : Array UInt8) (p : List Nat) : Prop := b.size = p.length ∧ ∀ m, m < p.length → bAt b m = p.getD m 0
theorem mul1_len (p : List Nat) (t : Nat) : (mul1 p t).length = p.length + 1 := by simp [mul1]
theorem lagP_len (xs : List Nat) (i : Nat) : ∀ j, (lagP xs i j).length = if i < j then j else j + 1
  | 0 => by simp [lagP]
  | j + 1 => by
    unfold lagP
    have ih := lagP_len xs i j
    split
    · rename_i e; subst e; rw [ih, if_neg (by omega), if_pos (by omega)]
    · rename_i e
      rw [mul1_len, ih]
      by_cases h : i < j
      · rw [if_pos h, if_pos (by omega)]
      · rw [if_neg h, if_neg (by omega)]
theorem getD_map_range (f : Nat → Nat) {n k : Nat} (h : k < n) : ((List.range n).map f).getD k 0 = f k := by
  simp [List.getD_eq_getElem?_getD, h]
theorem lagB_lt (xs : List Nat) (i : Nat) : ∀ j, lagB xs i j < 256
  | 0 => by show 1 < 256; decide
  | j + 1 => by
    unfold lagB
    split
    · exact lagB_lt xs i j
    · exact gm_lt _ _
theorem bAt_byteArr (os : List Nat) (h8 : ∀ o ∈ os, o < 256) (k : Nat) : bAt (byteArr (nI os)) k = os.getD k 0 := by
  unfold bAt byteArr nI
  by_cases hk : k < os.length
  · have := h8 os[k] (List.getElem_mem hk)
    simp [Array.getD, hk, List.getD_eq_getElem?_getD]
    omega
  · simp [Array.getD, hk, List.getD_eq_getElem?_getD]
theorem pmv2 {b d : Array UInt8} {p : List Nat} {t : Nat} (hb : AL b p) (d0 : bAt d 0 = 1) (d1 : bAt d 1 = t) {m : Nat} (hm : m < p.length + 1) : pmv b d 2 m = (mul1 p t).getD m 0 := by
  have hl := hb.1
  unfold mul1
  rw [getD_map_range _ hm]
  show (0 ^^^ (if 0 ≤ m ∧ m - 0 < b.size then gm (bAt b (m - 0)) (bAt d 0) else 0)) ^^^ (if 1 ≤ m ∧ m - 1 < b.size then gm (bAt b (m - 1)) (bAt d 1) else 0) = _
  rw [d0, d1, Nat.zero_xor, Nat.sub_zero]
  congr 1
  · by_cases h : m < p.length
    · rw [if_pos (by omega), hb.2 m h, gm_comm, gm_one]
      rw [← hb.2 m h]; exact bAt_lt _ _
    · rw [if_neg (by omega)]
      simp [List.getD_eq_getElem?_getD, h]
  · by_cases h : m = 0
    · subst h; simp
    · rw [if_pos (by omega), if_neg h, hb.2 (m - 1) (by omega)]
theorem ints_one {vs : List Value} {n : Int} (h : IntsAre vs [n]) : ∃ t, vs = [.int n t] := by
  cases h with
  | cons _ t h => cases h; exact ⟨t, rfl⟩
theorem ints_rep : ∀ (n : Nat) (t : Tok), IntsAre (List.replicate n (.int 0 t)) (nI (List.replicate n 0))
  | 0, _ => .nil
  | n + 1, t => .cons 0 t (ints_rep n t)
theorem fold_rep (n : Nat) (v : Value) (acc : Array Value) : List.foldl (fun x1 x2 => x1 ++ x2) acc (List.replicate n #[v]) = acc ++ (List.replicate n v).toArray := by
  induction n generalizing acc with
  | zero => simp
  | succ n ih => rw [List.replicate_succ, List.foldl_cons, ih, List.replicate_succ]; apply Array.ext'; simp
theorem mulOne {prog : Program} {w : World} {A : Around} {E : Value → Shared → Prop} {s : Shared} {l : Addr} {items : Array Value} {k : Nat} {x : Int} {u : Tok} {Q : Value → Shared → Prop}
    (hl : s.heap.get? l = some { cls := .type "list", dict := none, data := .seq items k, slots := #[] })
    (hlo : -(2 ^ 63 : Int) ≤ x) (hhi : x < 2 ^ 63) (hsz : items.size * x.toNat ≤ 2 ^ 24)
    (h : Q (.ref s.heap.objs.size) { s with heap := s.heap.push { cls := .type "list", data := .seq (List.foldl (fun x1 x2 => x1 ++ x2) #[] (List.replicate (if items.isEmpty = true then 0 else x.toNat) items)) } }) :
    wpAny (model prog w) A (binaryOp .Mult (.ref l) (.int x u)) Q E s :=
  wpAny_binaryOp_repeat_ref (T := "list") (U := "int") (by decide) ⟨_, hl, rfl⟩ (fun s' => typeIs_int s' x u) noFill_list_mul F.fills_int_mul F.slot_int_rmul repeat_list F.slot_int_index.lookup
    (call_meets F.slot_int_rmul (typeIs_int s x u) F.entry_int_rmul (F.args_int_rmul_2 _ _) (int___rmul___int_list x u l items k)
      ⟨hl, rfl, ⟨_, hl, rfl⟩, call_meets F.slot_list_mul ⟨_, hl, rfl⟩ F.entry_list_mul (F.args_list_mul_2 _ _)
        (AutoListH.list___mul___list_int_3 l items k x u (by simp [Builtin.List.listFitsIndex]; omega) (by omega) (by simp [Builtin.List.listTooLong, sizeLine]; omega))
        ⟨hl, h⟩⟩)
/-! ## Expressions that raise -/
def EvR (M : Model) (s : Shared) (A : Around) (env : Env) (h : Heap) (e : Expr) (X : Value → Heap → Prop) : Prop := ∀ h₁, Keep h h₁ → ∀ Q : Value → Heap → Prop, wpH M s A (eval e env) Q X h₁
section
variable {prog : Program} {w : World} {s : Shared} {A : Around} {env : Env} {h : Heap} {X : Value → Heap → Prop} {B : Addr → Option Obj} {L : Addr} {l : List (Str × Value)} {N : List (Addr × Obj)} {fa : Nat → Addr} {la ea : Addr} {lg ex : Array UInt8} {mg mb : Str → Option Value}
theorem EvR.call2 {f : Str} {p pos : Pos} {e₁ e₂ : Expr} {g : Addr} {o : Obj} {fd : FuncData} {V : Value → Heap → Prop} (y : Ev (model prog w) s A env h (.Name f p) (Is (.ref g))) (hd : o.data = .func fd) (z : Ev (model prog w) s A env h e₁ V) (r : EvR (model prog w) s A env h e₂ X)
    (he : starEach [e₁, e₂] env = (false, eval e₁ env) :: starEach [e₂] env := by rfl) (he' : starEach [e₂] env = (false, eval e₂ env) :: starEach [] env := by rfl) : EvR (model prog w) s A env h (.Call (.Name f p) [e₁, e₂] [] pos) X := fun h₁ k Q => by
  refine wpH_Call (y h₁ k _ _ fun v h₂ k₂ hv => ?_)
  obtain rfl := hv _ Keep.rfl
  rw [he, he']
  refine wpH_callWith_fn (o := o) (fd := fd) hd (by show 2 ≤ 30; decide) rfl ?_
  exact wpH_spliced_cons (z h₂ (k.trans k₂) _ _ fun v h₃ k₃ hv => wpH_spliced_cons (r h₃ ((k.trans k₂).trans k₃) _))
theorem EvR.div {a b : Expr} {p pos : Pos} {x : Nat} {base : Heap} {outer : List Env} (D : Md fa la ea lg ex mg mb h) (R : Room A 1) (hfr : A.frames = some outer) (hb : base.StaysIn h) (hl : h.FunFrames base outer) (u : Ev (model prog w) s A env h a (IsI x)) (v : Ev (model prog w) s A env h b (IsI 0))
    (he : starEach [a, b] env = (false, eval a env) :: starEach [b] env := by rfl) (he' : starEach [b] env = (false, eval b env) :: starEach [] env := by rfl) (hln : ∀ pos, (backTo pos (starEach [a, b] env)).length = 2 := by intro _; rfl) (hne : ∀ pos, (backTo pos (starEach [a, b] env)).all (fun x => !x.1) = true := by intro _; rfl)
    (hg : env.globals = mainGlobals := by rfl) (hk : env.scope.kind = .function := by rfl) (hk' : env.kindOf "gf_div" = some .globalImplicit := by rfl) : EvR (model prog w) s A env h (.Call (.Name "gf_div" p) [a, b] [] pos) (XF base outer h) := fun h₁ k Q => by
  obtain ⟨o, dV, pm', c', doc', f1, f2, f3, f4⟩ := (D.fn 6 (by decide)).2.at'
  refine wpH_Call (Ev.glob D.gl (D.fn 6 (by decide)).1 hg hk hk' (by decide) h₁ k _ _ fun v' h₂ k₂ hv => ?_)
  obtain rfl := hv _ Keep.rfl
  refine wpH_callWith_fn f2 (by rw [hln]; decide) (hne _) (EvL.cons u (EvL.cons v EvL.nil he') he _ h₂ (k.trans k₂) _ _ fun vs h₃ k₃ hvs => ?_)
  obtain ⟨v1, r1, rfl, ⟨t1, rfl⟩, v2, r2, rfl, ⟨t2, rfl⟩, rfl⟩ := hvs _ Keep.rfl
  have k13 := (k.trans k₂).trans k₃
  refine ⟨k13 _ _ f1, wpH_mono (div_zero (D.keeps k13) R hfr (fun b o e => k13 _ _ (hb _ _ e)) (hl.of_keeps fun b o e _ => ⟨o, k13 _ _ e, rfl⟩)) (fun _ _ q => q) fun e h' x => x.upto (.of_keeps k13)⟩
/-- calls of the text's defs -/
theorem Ev.fn2 {i : Nat} {f : Str} {p pos : Pos} {a b : Expr} {U W V : Value → Heap → Prop} (D : Md fa la ea lg ex mg mb h) (hi : i ∈ defIx) (hf : (fnAt i).1 = f) (u : Ev (model prog w) s A env h a U) (v : Ev (model prog w) s A env h b W)
    (hc : ∀ x y h₁, Keep h h₁ → U x h₁ → W y h₁ → Con (model prog w) s A (fa i) [x, y] h₁ V)
    (he : starEach [a, b] env = (false, eval a env) :: starEach [b] env := by rfl) (he' : starEach [b] env = (false, eval b env) :: starEach [] env := by rfl) (hln : ∀ pos, (backTo pos (starEach [a, b] env)).length = 2 := by intro _; rfl) (hne : ∀ pos, (backTo pos (starEach [a, b] env)).all (fun x => !x.1) = true := by intro _; rfl)
    (hg : env.globals = mainGlobals := by rfl) (hk : env.scope.kind = .function := by rfl) (hl : env.kindOf f = some .globalImplicit := by rfl) (hd : (f == ("__debug__" : Str)) = false := by decide) : Ev (model prog w) s A env h (.Call (.Name f p) [a, b] [] pos) V := by
  subst hf
  obtain ⟨o, dV, pm', c', doc', f1, f2, f3, f4⟩ := (D.fn i hi).2.at'
  refine Ev.fn (Ev.glob D.gl (D.fn i hi).1 hg hk hl hd) f1 f2 (EvL.cons u (EvL.cons v EvL.nil he') he) (fun vs h₄ k₄ hvs => ?_) (by simp) hln hne
  obtain ⟨v, r, rfl, hu, v', r', rfl, hw, rfl⟩ := hvs
  exact hc v v' h₄ k₄ hu hw
theorem none_of_keep {h h₁ : Heap} (k : Keep h h₁) {a : Addr} (e : h₁.get? a = none) : h.get? a = none := by
  cases x : h.get? a with
  | none => rfl
  | some o => rw [k _ _ x] at e; cases e
theorem asgBx {x : Str} {p pos : Pos} {e : Expr} {P : Array UInt8 → Prop} {Q : Flow → Heap → Prop} (F : Fra B L l N h) (y : Ev (model prog w) s A env h e (fun v h' => ∃ r, P r ∧ NewB h r v h'))
    (q : ∀ r a h', P r → Fra B L (setL x (.ref a) l) ((a, ba r) :: N) h' → Q .next h') (hs : swapsWith e (some (.Name x p)) pos.line env = pure false := by rfl)
    (hL : env.locals = L := by rfl) (hl : env.kindOf x = some .local := by rfl) (hk : env.scope.kind = .function := by rfl) : wpH (model prog w) s A (exec (.Assign [.Name x p] e pos) env) Q X h :=
  wpH_Assign_Name (y.wp fun v h₁ k hv => by
    obtain ⟨r, hP, a, rfl, hn, ha⟩ := hv _ Keep.rfl
    exact wpH_store (F.fresh k hn ha) (fun h' sb F' => q r a h' hP F') hL hl hk) hs
theorem Ev.bar {p : Pos} (D : Md fa la ea lg ex mg mb h) (hg : env.globals = mainGlobals := by rfl) (hb : env.builtins = builtinsNs := by rfl) (hk : env.scope.kind = .function := by rfl) (hl : env.kindOf "bytearray" = some .globalImplicit := by rfl) : Ev (model prog w) s A env h (.Name "bytearray" p) (Is (.type "bytearray")) :=
  Ev.blt D.gl (D.fr _ (by decide)) (by decide +kernel) hg hb hk hl
/-- [0] * n -/
theorem Ev.zeros {e : Expr} {k : Nat} {p0 pos pos' : Pos} {n : Nat} (z : Ev (model prog w) s A env h e (IsI n)) (hn : n ≤ 1000) (he : starEach [.Constant (.int 0) k p0] env = (false, eval (.Constant (.int 0) k p0) env) :: starEach [] env := by rfl) :
    Ev (model prog w) s A env h (.BinOp (.List [.Constant (.int 0) k p0] pos) .Mult e pos') (IsIL (nI (List.replicate n 0))) := fun h₁ k₁ Q X q => by
  refine wpH_BinOp ((ints2 (ns := [0]) (EvL.cons Ev.int EvL.nil he) (fun vs h' ⟨v, r, e1, ⟨t, e2⟩, e3⟩ => by subst e1 e2; obtain rfl : r = [] := e3; exact .cons 0 t .nil) (by decide)) h₁ k₁ _ _ fun v h₂ k₂ hv => z h₂ (k₁.trans k₂) _ _ fun u h₃ k₃ hu => ?_)
  obtain ⟨a, vs, m, rfl, _, ha, hi⟩ := hv _ k₃
  obtain ⟨t, rfl⟩ := hu _ Keep.rfl
  obtain ⟨t0, rfl⟩ := ints_one hi
  have hlist : List.foldl (fun x1 x2 => x1 ++ x2) #[] (List.replicate (if (#[Value.int 0 t0] : Array Value).isEmpty = true then 0 else (n : Int).toNat) #[Value.int 0 t0]) = (List.replicate n (Value.int 0 t0)).toArray := by
    rw [if_neg (by simp), Int.toNat_natCast]
    rw [fold_rep]; simp
  refine wpH_any fun tk => mulOne (s := stt s h₃ tk) ha (by omega) (by omega) (by simp; omega) ⟨_, _, rfl, q _ _ ((k₂.trans k₃).trans fun b o e => Heap.get?_push_of_some _ e) fun h₄ k₄ => ⟨_, List.replicate n (.int 0 t0), rfl, ?_, ?_⟩⟩
  · exact ⟨_, k₄ _ _ (Heap.get?_push_size _ rfl), rfl, _, by rw [hlist]⟩
  · exact ints_rep n t0
end
end Mine
namespace Mine
open PySem PySem.W PyProof.Rows PySem.Calls
open Sem (wp)
section
variable {prog : Program} {w : World} {s : Shared} {A : Around} {env : Env} {h : Heap} {fa : Nat → Addr} {la ea : Addr} {lg ex : Array UInt8} {mg mb : Str → Option Value}
theorem AL_lt {b : Array UInt8} {p : List Nat} (h : AL b p) (m : Nat) : p.getD m 0 < 256 := by
  by_cases hm : m < p.length
  · rw [← h.2 m hm]; exact bAt_lt _ _
  · simp [List.getD_eq_getElem?_getD, hm]
theorem lagW_len (xs ys : List Nat) : ∀ i, (lagW xs ys i).length = xs.length
  | 0 => by simp [lagW]
  | i + 1 => by simp [lagW]
theorem getD_lt {os : List Nat} (h8 : ∀ o ∈ os, o < 256) (k : Nat) : os.getD k 0 < 256 := by
  by_cases hk : k < os.length
  · have := h8 os[k] (List.getElem_mem hk)
    simpa [List.getD_eq_getElem?_getD, hk] using this
  · simp [List.getD_eq_getElem?_getD, hk]
theorem raiseAsg {x : Str} {p pos : Pos} {e : Expr} {X X' : Value → Heap → Prop} {Q : Flow → Heap → Prop} (r : EvR (model prog w) s A env h e X') (hX : ∀ e h', X' e h' → X e h') (hs : swapsWith e (some (.Name x p)) pos.line env = pure false := by rfl) :
    wpH (model prog w) s A (exec (.Assign [.Name x p] e pos) env) Q X h := wpH_Assign_Name (wpH_mono (r h Keep.rfl fun _ _ => False) (fun _ _ z => z.elim) hX) hs
theorem Ev.list1 {e : Expr} {pos : Pos} {a : Nat} (u : Ev (model prog w) s A env h e (IsI a)) (he : starEach [e] env = (false, eval e env) :: starEach [] env := by rfl) : Ev (model prog w) s A env h (.List [e] pos) (IsIL (nI [a])) :=
  (ints2 (ns := nI [a]) (EvL.cons u EvL.nil he) (fun vs h' hv => by
    obtain ⟨v, r, rfl, ⟨t, rfl⟩, rfl⟩ := hv
    exact .cons _ t .nil) (by show 1 ≤ 1000; decide)).mono fun v h' k e => e.is
theorem Ev.list2 {e e' : Expr} {pos : Pos} {a b : Nat} (u : Ev (model prog w) s A env h e (IsI a)) (v : Ev (model prog w) s A env h e' (IsI b)) (he : starEach [e, e'] env = (false, eval e env) :: starEach [e'] env := by rfl) (he' : starEach [e'] env = (false, eval e' env) :: starEach [] env := by rfl) : Ev (model prog w) s A env h (.List [e, e'] pos) (IsIL (nI [a, b])) :=
  (ints2 (ns := nI [a, b]) (EvL.cons u (EvL.cons v EvL.nil he') he) (fun vs h' hv => by
    obtain ⟨v, r, rfl, ⟨t, rfl⟩, v', r', rfl, ⟨t', rfl⟩, rfl⟩ := hv
    exact .cons _ t (.cons _ t' .nil)) (by show 2 ≤ 1000; decide)).mono fun v h' k e => e.is
/-- _law_through: either every divisor is not nought and it gives the sum, or it raises -/
theorem through_H (D : Md fa la ea lg ex mg mb h) (R : Room A 4) {base : Heap} {outer : List Env} (hfr : A.frames = some outer) (hb : base.StaysIn h) (hl : h.FunFrames base outer)
    {a c : Addr} {vs us : List Value} {xs ys : List Nat} (ha : h.IsList a vs.toArray) (hi : IntsAre vs (nI xs)) (hc : h.IsList c us.toArray) (hj : IntsAre us (nI ys)) (hn : ys.length = xs.length) (hx1 : xs.length ≤ 100) (hx8 : ∀ o ∈ xs, o < 256) (hy8 : ∀ o ∈ ys, o < 256)
    {Q X : Value → Heap → Prop} (q : (∀ i, i < xs.length → lagB xs i xs.length ≠ 0) → ∀ r g h', Keep h h' → AL r (lagW xs ys xs.length) → h.get? g = none → h'.get? g = some (ba r) → Q (.ref g) h')
    (qx : (∃ i, i < xs.length ∧ lagB xs i xs.length = 0) → ∀ e h', XF base outer h e h' → X e h') :
    wpH (model prog w) s A (PySem.call (.ref (fa 16)) [.ref a, .ref c]) Q X h := by
  obtain ⟨o, dV, pm, cc, doc, h1, h2, h3, h4⟩ := (D.fn 16 (by decide)).2.at'
  obtain rfl := h4 rfl
  refine callH (binds := [("places", .ref a), ("values", .ref c)]) (by have := R.d; omega) h1 h2 D.gl.lim h3 rfl (fun tk => .of_eq (by rfl)) (show ∀ x ∈ (fnAt 16).2.2.2.names, x.2 ≠ .cell by decide) (locs (by rfl)) (fun L h₁ F => ?_) rfl rfl rfl
  have R₁ : Room (A.deeper (callEnv (fdOf 16 .none pm (.ref cc) doc) L (fa 16))) 3 := R.deeper
  have D₁ := D.keeps F.keep
  have kl : ∀ {b : Addr} {xs : List Value} {g : Heap}, h.IsList b xs.toArray → Keep h g → g.IsList b xs.toArray := fun ⟨o, e1, e2⟩ k => ⟨o, k _ _ e1, e2⟩
  have hfr' : (A.deeper (callEnv (fdOf 16 .none pm (.ref cc) doc) L (fa 16))).frames = some (callEnv (fdOf 16 .none pm (.ref cc) doc) L (fa 16) :: outer) := Around.frames_deeper hfr
  have hLb : base.get? L = none := by
    cases e : base.get? L with
    | none => rfl
    | some o => have := F.own; rw [hb _ _ e] at this; cases this
  generalize hE : callEnv (fdOf 16 .none pm (.ref cc) doc) L (fa 16) = env₀ at hfr'
  have hEf : env₀.frame = some L := by rw [← hE]; rfl
  refine wpH_mono (X := fun e h' => (∃ i, i < xs.length ∧ lagB xs i xs.length = 0) ∧ HF base (env₀ :: outer) L h e h') ?_ (fun _ _ z => z) fun e h' ⟨z1, z2⟩ => by
    exact wpH_mono (leave_HF (X := noX) z2 hEf (.refl _)) (fun _ h'' x => qx z1 e h'' x) fun _ _ x => x.elim
  have hfun : ∀ {h' : Heap} {B : Addr → Option Obj} {l : List (Str × Value)} {N : List (Addr × Obj)}, Fra B L l N h' → Keep h h' → h'.FunFrames base (env₀ :: outer) := fun F' k => by
    obtain ⟨m, hn, _⟩ := F'.ns
    refine .cons ?_ hEf hn hLb (hl.of_keeps fun b o e _ => ⟨o, k _ _ e, rfl⟩)
    rw [← hE]; show (fnAt 16).2.2.2.kind ≠ .module; decide
  subst hE
  refine wpH_execs_cons (asgB F (b := byteArr (nI (List.replicate xs.length 0))) (Ev.baL (Ev.bar D₁) (Ev.zeros (n := xs.length) ((Ev.lenL (Ev.len' D₁) (Ev.isL (Ev.loc F) (kl ha F.keep) hi) (by rw [nI_len]; omega)).mono fun v h' k e => by rw [nI_len] at e; exact e) (by omega)) (fun n hn => ?_) (by rw [nI_len]; simp; omega) R₁.g) fun wa h₂ F₂ => ?_)
  · unfold nI at hn
    obtain ⟨m, hm, rfl⟩ := List.mem_map.mp hn
    rw [List.eq_of_mem_replicate hm]; decide
  have z8 : ∀ n : Nat, ∀ o ∈ List.replicate n 0, o < 256 := fun n o ho => by rw [List.eq_of_mem_replicate ho]; decide
  have D₂ := D.keeps F₂.keep
  obtain ⟨ol, hol, hcl, hdl⟩ := id ha
  refine wpH_execs_cons (for_enum (S := Addr × Array UInt8) (X' := fun e h' => (∃ i, i < xs.length ∧ lagB xs i xs.length = 0) ∧ XF base (callEnv (fdOf 16 .none pm (.ref cc) doc) L (fa 16) :: outer) h e h')
    (fun _ σ => [("places", .ref a), ("values", .ref c), ("whole", .ref σ.1)]) (fun _ σ => [(σ.1, ba σ.2)]) (fun i σ => AL σ.2 (lagW xs ys i) ∧ ∀ i', i' < i → lagB xs i' xs.length ≠ 0) (wa, _) ⟨⟨?_, fun m hm => ?_⟩, fun i' hi' => by omega⟩ (F₂.weak ⟨rfl, rfl, rfl, trivial⟩) R₁.hd (Ev.enu D₂) (Ev.loc F₂) hol hcl hdl hi ?_ ?_ ?_ (by rw [nI_len]; exact sz_of _ (by omega)))
  · show (byteArr _).size = _
    rw [byteArr_size, nI_len, lagW_len]; simp
  · show bAt (byteArr _) m = _
    rw [bAt_byteArr _ (z8 _)]; rfl
  · rintro i ⟨ga, W⟩ B' ti tv h₃ hik ⟨hW, hok⟩ hB F₃
    rw [nI_len] at hik
    rw [nI_get] at F₃
    dsimp only at hW F₃
    have kB : Keep h h₃ := fun b o e => F₃.keep b o (hB b o e)
    have D₃ := D.keeps kB
    have hi8 := getD_lt hx8 i
    refine wpH_execs_cons (asgB F₃ (b := byteArr (nI [1])) (Ev.baL (Ev.bar D₃) (Ev.list1 (a := 1) Ev.int) (by decide) (by decide) R₁.g) fun pa h₄ F₄ => ?_)
    refine wpH_execs_cons (asgI F₄ Ev.int fun tb h₅ F₅ => ?_)
    have kB₅ : Keep h h₅ := fun b o e => F₅.keep b o (hB b o e)
    have D₅ := D.keeps kB₅
    refine wpH_execs_cons (for_enum (S := Addr × Array UInt8 × Tok) (X' := noX) (fun j σ => [("places", .ref a), ("values", .ref c), ("whole", .ref ga), ("i", .int i ti), ("here", .int (xs.getD i 0 : Nat) tv), ("part", .ref σ.1), ("below", .int (lagB xs i j : Nat) σ.2.2)]) (fun _ σ => [(σ.1, ba σ.2.1), (ga, ba W)]) (fun j σ => AL σ.2.1 (lagP xs i j))
      (pa, byteArr (nI [1]), tb) ⟨rfl, fun m hm => ?_⟩ (F₅.weak ⟨rfl, rfl, rfl, rfl, rfl, rfl, rfl, trivial⟩) R₁.hd (Ev.enu D₅) (Ev.loc F₅) (hB _ _ hol) hcl hdl hi ?_ (fun _ _ z => z.elim) ?_ (by rw [nI_len]; exact sz_of _ (by omega)))
    · exact bAt_byteArr [1] (by decide) m
    · rintro j ⟨pa, P, tb⟩ B'' tj tw h₆ hjk hP hB₂ F₆
      rw [nI_len] at hjk
      rw [nI_get] at F₆
      dsimp only at hP F₆
      have kB₆ : Keep h h₆ := fun b o e => F₆.keep b o (hB₂ _ _ (hB b o e))
      have D₆ := D.keeps kB₆
      have hj8 := getD_lt hx8 j
      have hpl := lagP_len xs i j
      have hpl' : (lagP xs i j).length ≤ j + 1 := by rw [hpl]; split <;> omega
      have hpl0 : 0 < (lagP xs i j).length := by rw [hpl]; split <;> omega
      have hps : P.size = (lagP xs i j).length := hP.1
      refine wpH_execs_cons (iff (EvT.ne (Ev.locI F₆) (Ev.locI F₆)) (fun e h₇ k₇ => ?_) fun e h₇ k₇ => wpH_execs_nil (wpH_execs_nil ⟨rfl, (pa, P, tb), ?_, ?_⟩))
      · have hne : j ≠ i := by simp at e; omega
        have F₇ := F₆.keeps k₇
        have D₇ := D₆.keeps k₇
        have eP : lagP xs i (j + 1) = mul1 (lagP xs i j) (xs.getD j 0) := by show (if j = i then _ else _) = _; rw [if_neg hne]
        have eB : lagB xs i (j + 1) = gm (lagB xs i j) (xs.getD i 0 ^^^ xs.getD j 0) := by show (if j = i then _ else _) = _; rw [if_neg hne]
        have pq : ∀ o ∈ [1, xs.getD j 0], o < 256 := by
          intro o ho
          simp only [List.mem_cons, List.not_mem_nil, or_false] at ho
          rcases ho with rfl | rfl
          · decide
          · exact hj8
        have hpa := F₇.news _ (List.mem_cons_self ..)
        refine wpH_execs_cons (asgBx F₇ (P := fun r => AL r (lagP xs i (j + 1))) ((Ev.fn2 (i := 11) D₇ (by decide) rfl (Ev.locB F₇ hpa) ((Ev.baL (ns := nI [1, xs.getD j 0]) (Ev.bar D₇) (Ev.list2 (a := 1) (b := xs.getD j 0) Ev.int (Ev.locI F₇)) (fun n hn => ?_) (by show 2 ≤ 1000; decide) R₁.g).mono fun v h' k ⟨g, e1, _, e3⟩ => (⟨g, e1, e3⟩ : IsB _ v h'))
          (V := fun v h' => ∃ r, AL r (lagP xs i (j + 1)) ∧ NewB h₇ r v h') (fun x y g kg hx' hy' => ?_)).mono fun v h' k e => e) fun P' pa' h₈ hP' F₈ => ?_)
        · obtain ⟨m, hm, rfl⟩ := List.mem_map.mp hn
          have := pq m hm
          omega
        · obtain ⟨xa, rfl, hxa⟩ := hx'
          obtain ⟨ya, rfl, hya⟩ := hy'
          have hds : (byteArr (nI [1, xs.getD j 0])).size = 2 := by rw [byteArr_size, nI_len]; rfl
          refine (con_pmul (D₇.keeps kg) (R₁.le (by decide)) hxa hya (by omega) (by omega) (by omega)).mono fun v g' kg' ⟨r, r1, r2, ra, r3, r4, r5⟩ => ⟨r, ⟨?_, fun m hm => ?_⟩, ra, r3, none_of_keep kg r4, r5⟩
          · rw [eP, mul1_len, r1, hds]; omega
          · rw [eP, mul1_len] at hm
            rw [r2 m (by omega), hds, eP]
            exact pmv2 hP (bAt_byteArr [1, xs.getD j 0] pq 0) (bAt_byteArr [1, xs.getD j 0] pq 1) hm
        · have F₈' := F₈.sub (N' := [(pa', ba P'), (ga, ba W)]) (.cons₂ _ (.cons _ (.refl _)))
          have kB₈ : Keep h h₈ := fun b o e => F₈.keep b o (hB₂ _ _ (hB b o e))
          have D₈ := D.keeps kB₈
          refine wpH_execs_cons (asgI F₈' (i := (lagB xs i (j + 1) : Nat)) ?_ fun tb' h₉ F₉ => wpH_execs_nil (wpH_execs_nil ⟨rfl, (pa', P', tb'), hP', F₉.weak ⟨rfl, rfl, rfl, rfl, rfl, rfl, rfl, trivial⟩⟩))
          rw [eB]
          refine Ev.gm D₈ (R₁.le (by decide)) (Ev.locI F₈') (Ev.fn2 (i := 4) D₈ (by decide) rfl (Ev.locI F₈') (Ev.locI F₈') (fun x y g kg hx' hy' => ?_)) (lagB_lt _ _ _) (xor_lt hi8 hj8)
          obtain ⟨tx, rfl⟩ := hx'
          obtain ⟨ty, rfl⟩ := hy'
          exact con_sub (D₈.keeps kg) (R₁.le (by decide))
      · have hne : j = i := by simp at e; omega
        show AL P (if j = i then _ else _)
        rw [if_pos hne]; exact hP
      · have hne : j = i := by simp at e; omega
        have eB : lagB xs i (j + 1) = lagB xs i j := by show (if j = i then _ else _) = _; rw [if_pos hne]
        dsimp only
        rw [eB]
        exact (F₆.keeps k₇).weak ⟨rfl, rfl, rfl, rfl, rfl, rfl, rfl, trivial⟩
    · rintro ⟨pa, P, tb⟩ h₆ hP F₆
      rw [nI_len] at hP F₆
      dsimp only at hP F₆
      have kB₆ : Keep h h₆ := fun b o e => F₆.keep b o (hB b o e)
      have D₆ := D.keeps kB₆
      have hpa := F₆.news _ (List.mem_cons_self ..)
      have hwa := F₆.news (ga, ba W) (.tail _ (.head _))
      have hpl : (lagP xs i xs.length).length = xs.length := by rw [lagP_len, if_pos hik]
      by_cases hz : lagB xs i xs.length = 0
      · rw [hz] at F₆
        obtain ⟨o10, _, _, _, _, a1, a2, _, _⟩ := (D₆.fn 10 (by decide)).2.at'
        obtain ⟨o9, _, _, _, _, b1, b2, _, _⟩ := (D₆.fn 9 (by decide)).2.at'
        refine wpH_execs_cons (raiseAsg (EvR.call2 (Ev.glob D₆.gl (D₆.fn 10 (by decide)).1) a2 (Ev.loc F₆) (EvR.call2 (Ev.glob D₆.gl (D₆.fn 9 (by decide)).1) b2 (Ev.loc F₆) (EvR.div (x := ys.getD i 0) D₆ (R₁.le (by decide)) hfr' (fun b o e => kB₆ _ _ (hb _ _ e)) (hfun F₆ kB₆) ((Ev.itemL (Ev.isL (Ev.loc F₆) (kl hc kB₆) hj) (Ev.locI F₆) (by omega) (by rw [nI_len]; omega) (by rw [nI_len]; omega)).mono fun v h' k e => by rw [nI_get] at e; exact e) (Ev.locI F₆)))) fun e h' x => ⟨⟨i, hik, hz⟩, x.upto (.of_keeps kB₆)⟩)
      · have hb8 := lagB_lt xs i xs.length
        have hy8i := getD_lt hy8 i
        have hps : P.size = xs.length := hP.1.trans hpl
        have hws : W.size = xs.length := hW.1.trans (lagW_len xs ys i)
        refine wpH_execs_cons (asgBx F₆ (P := fun r => AL r (lagW xs ys (i + 1))) (Ev.fn2 (i := 10) D₆ (by decide) rfl (Ev.locB F₆ hwa) (W := IsB (scl P (gd (ys.getD i 0) (lagB xs i xs.length))))
          ((Ev.fn2 (i := 9) D₆ (by decide) rfl (Ev.locB F₆ hpa) (V := NewB h₆ (scl P (gd (ys.getD i 0) (lagB xs i xs.length))))
            (Ev.fn2 (i := 6) (V := IsI (gd (ys.getD i 0) (lagB xs i xs.length) : Nat)) D₆ (by decide) rfl ((Ev.itemL (Ev.isL (Ev.loc F₆) (kl hc kB₆) hj) (Ev.locI F₆) (by omega) (by rw [nI_len]; omega) (by rw [nI_len]; omega)).mono fun v h' k e => (show IsI (ys.getD i 0 : Nat) v h' by rw [nI_get] at e; exact e)) (Ev.locI F₆) (fun x y g kg hx' hy' => ?_)) (fun x y g kg hx' hy' => ?_)).mono fun v h' k ⟨g, e1, _, e3⟩ => ⟨g, e1, e3⟩) (fun x y g kg hx' hy' => ?_)) fun W' ga' h₇ hW' F₇ => ?_)
        · obtain ⟨tx, rfl⟩ := hx'
          obtain ⟨ty, rfl⟩ := hy'
          exact con_div (D₆.keeps kg) (R₁.le (by decide)) hy8i hb8 hz
        · obtain ⟨xa, rfl, hxa⟩ := hx'
          obtain ⟨ty, rfl⟩ := hy'
          refine (con_scale (D₆.keeps kg) (R₁.le (by decide)) hxa (by omega) (gd_lt _ _)).mono fun v g' kg' ⟨ra, r3, r4, r5⟩ => ⟨ra, r3, none_of_keep kg r4, r5⟩
        · obtain ⟨xa, rfl, hxa⟩ := hx'
          obtain ⟨ya, rfl, hya⟩ := hy'
          have hsc : (scl P (gd (ys.getD i 0) (lagB xs i xs.length))).size = xs.length := by unfold scl; rw [byteArr_size]; simp [hps]
          refine (con_add (D₆.keeps kg) (R₁.le (by decide)) hxa hya (by omega) (by omega)).mono fun v g' kg' ⟨r, r1, r2, ra, r3, r4, r5⟩ => ⟨r, ⟨?_, fun m hm => ?_⟩, ra, r3, none_of_keep kg r4, r5⟩
          · rw [r1, hws, lagW_len]
          · rw [lagW_len] at hm
            rw [r2 m (by omega)]
            show _ = (List.map _ _).getD m 0
            rw [getD_map_range _ hm, hW.2 m (by rw [lagW_len]; exact hm)]
            congr 1
            unfold scl
            have e : (List.range P.size).map (fun k => ((gm (bAt P k) (gd (ys.getD i 0) (lagB xs i xs.length)) : Nat) : Int)) = nI ((List.range P.size).map fun k => gm (bAt P k) (gd (ys.getD i 0) (lagB xs i xs.length))) := by simp [nI]
            rw [e, bAt_byteArr _ (fun o ho => by obtain ⟨k, _, rfl⟩ := List.mem_map.mp ho; exact gm_lt _ _), getD_map_range _ (by omega), hP.2 m (by omega)]
        · exact wpH_execs_nil ⟨rfl, (ga', W'), ⟨hW', fun i' hi' => by
            by_cases e : i' = i
            · subst e; exact hz
            · exact hok i' (by omega)⟩, (F₇.sub (N' := [(ga', ba W')]) (.cons₂ _ (.cons _ (.cons _ .slnil)))).weak ⟨rfl, rfl, rfl, trivial⟩⟩
  · rintro e h' ⟨z1, z2⟩
    refine wpH_mono (note_XF (X := noX) z2 hfr' rfl) (fun _ h'' x => ?_) fun _ _ x => x.elim
    exact wpH_mono (back_HF x rfl) (fun _ _ y => ⟨z1, y⟩) fun _ _ y => ⟨z1, y⟩
  · rintro ⟨ga, W⟩ h₃ ⟨hW, hok⟩ F₃
    rw [nI_len] at hW hok
    exact wpH_execs_cons (retE (Ev.loc F₃) fun v h₄ k₄ hv => by
      obtain rfl := hv _ Keep.rfl
      exact q hok W ga h₄ (Keep.trans F₃.keep k₄) hW (F₃.apart _ (List.mem_cons_self ..)).1 (k₄ _ _ (F₃.news _ (List.mem_cons_self ..))))
end
end Mine
namespace Mine
/-! ## Polynomials over the field, in plain Lean -/
def pev (x : Nat) : List Nat → Nat → Nat
  | [], y => y
  | c :: r, y => pev x r (gm y x ^^^ c)
abbrev peval (p : List Nat) (x : Nat) : Nat := pev x p 0
def All8 (p : List Nat) : Prop := ∀ c ∈ p, c < 256
theorem All8.tail {c : Nat} {p : List Nat} (h : All8 (c :: p)) : All8 p := fun d hd => h d (List.mem_cons_of_mem _ hd)
theorem All8.head {c : Nat} {p : List Nat} (h : All8 (c :: p)) : c < 256 := h c (List.mem_cons_self ..)
theorem pev_lt {x : Nat} : ∀ {p : List Nat} {y : Nat}, All8 p → y < 256 → pev x p y < 256
  | [], _, _, h => h
  | c :: p, y, h, _ => by
    show pev x p (gm y x ^^^ c) < 256
    exact pev_lt h.tail (xor_lt (gm_lt _ _) h.head)
theorem peval_lt {p : List Nat} {x : Nat} (h : All8 p) : peval p x < 256 := pev_lt h (by decide)
theorem gm_xor_left {a b c : Nat} (ha : a < 256) (hb : b < 256) (hc : c < 256) : gm (a ^^^ b) c = gm a c ^^^ gm b c := by
  rw [gm_comm, gm_xor hc ha hb, gm_comm c a, gm_comm c b]
theorem xor4 (a b c d : Nat) : (a ^^^ b) ^^^ (c ^^^ d) = (a ^^^ c) ^^^ (b ^^^ d) := by
  rw [Nat.xor_assoc, Nat.xor_assoc, ← Nat.xor_assoc b, Nat.xor_comm b c, Nat.xor_assoc c]
theorem pev_zip {x : Nat} (hx : x < 256) : ∀ {p q : List Nat} {a b : Nat}, p.length = q.length → All8 p → All8 q → a < 256 → b < 256 → pev x (List.zipWith (· ^^^ ·) p q) (a ^^^ b) = pev x p a ^^^ pev x q b
  | [], [], _, _, _, _, _, _, _ => rfl
  | c :: p, d :: q, a, b, hl, hp, hq, ha, hb => by
    show pev x _ (gm (a ^^^ b) x ^^^ (c ^^^ d)) = _
    rw [gm_xor_left ha hb hx, xor4]
    exact pev_zip hx (by simpa using hl) hp.tail hq.tail (xor_lt (gm_lt _ _) hp.head) (xor_lt (gm_lt _ _) hq.head)
theorem pev_snoc {x : Nat} (c : Nat) : ∀ (p : List Nat) (y : Nat), pev x (p ++ [c]) y = gm (pev x p y) x ^^^ c
  | [], _ => rfl
  | _ :: p, _ => pev_snoc c p _
theorem gm_swap {a b c : Nat} (ha : a < 256) (hb : b < 256) (hc : c < 256) : gm (gm a b) c = gm (gm a c) b := by
  rw [gm_assoc ha hb hc, gm_comm b c, ← gm_assoc ha hc hb]
theorem pev_scale {x t : Nat} (hx : x < 256) (ht : t < 256) : ∀ {p : List Nat} {y : Nat}, All8 p → y < 256 → pev x (p.map fun c => gm c t) (gm y t) = gm (pev x p y) t
  | [], _, _, _ => rfl
  | c :: p, y, hp, hy => by
    show pev x _ (gm (gm y t) x ^^^ gm c t) = gm (pev x p (gm y x ^^^ c)) t
    rw [gm_swap hy ht hx, ← gm_xor_left (gm_lt _ _) hp.head ht]
    exact pev_scale hx ht hp.tail (xor_lt (gm_lt _ _) hp.head)
theorem mul1_eq (p : List Nat) (t : Nat) : mul1 p t = List.zipWith (· ^^^ ·) (p ++ [0]) (0 :: p.map fun c => gm c t) := by
  apply List.ext_getElem
  · simp [mul1]
  · intro i h1 h2
    simp only [mul1, List.getElem_map, List.getElem_range, List.getElem_zipWith]
    congr 1
    · rw [List.getElem_append]
      split
      · rename_i h; simp [List.getD_eq_getElem?_getD, h]
      · rename_i h; simp [List.getD_eq_getElem?_getD, h]
    · cases i with
      | zero => simp
      | succ i =>
        have : i < p.length := by simp [mul1] at h1; omega
        simp [List.getD_eq_getElem?_getD, this]
theorem peval_mul1 {p : List Nat} {t x : Nat} (hp : All8 p) (ht : t < 256) (hx : x < 256) : peval (mul1 p t) x = gm (peval p x) (x ^^^ t) := by
  have h1 : All8 (p ++ [0]) := fun c hc => by
    rcases List.mem_append.mp hc with h | h
    · exact hp c h
    · rw [List.mem_singleton.mp h]; decide
  have h2 : All8 (0 :: p.map fun c => gm c t) := fun c hc => by
    rcases List.mem_cons.mp hc with rfl | h
    · decide
    · obtain ⟨d, _, rfl⟩ := List.mem_map.mp h; exact gm_lt _ _
  have e := pev_zip (a := 0) (b := 0) hx (by simp) h1 h2 (by decide) (by decide)
  rw [Nat.xor_self] at e
  unfold peval
  rw [mul1_eq, e, pev_snoc, Nat.xor_zero]
  show _ ^^^ pev x (p.map fun c => gm c t) (gm 0 x ^^^ 0) = _
  have e2 := pev_scale hx ht (y := 0) hp (by decide)
  rw [gm_zero_left] at e2
  rw [gm_zero_left, Nat.xor_zero, e2, ← gm_xor (pev_lt hp (by decide)) hx ht]
theorem all8_mul1 {p : List Nat} {t : Nat} (hp : All8 p) : All8 (mul1 p t) := fun c hc => by
  unfold mul1 at hc
  obtain ⟨m, _, rfl⟩ := List.mem_map.mp hc
  refine xor_lt (getD_lt hp m) ?_
  split
  · decide
  · exact gm_lt _ _
theorem all8_lagP {xs : List Nat} {i : Nat} : ∀ j, All8 (lagP xs i j)
  | 0 => fun c hc => by rw [List.mem_singleton.mp hc]; decide
  | j + 1 => by
    unfold lagP
    split
    · exact all8_lagP j
    · exact all8_mul1 (all8_lagP j)
/-- the value of the i-th product at a place -/
def prodAt (xs : List Nat) (i x : Nat) : Nat → Nat
  | 0 => 1
  | j + 1 => if j = i then prodAt xs i x j else gm (prodAt xs i x j) (x ^^^ xs.getD j 0)
theorem peval_lagP {xs : List Nat} (h8 : All8 xs) {i x : Nat} (hx : x < 256) : ∀ j, peval (lagP xs i j) x = prodAt xs i x j
  | 0 => by show gm 0 x ^^^ 1 = 1; rw [gm_zero_left]; rfl
  | j + 1 => by
    have ih := peval_lagP h8 (i := i) hx j
    unfold lagP prodAt
    by_cases e : j = i
    · rw [if_pos e, if_pos e]; exact ih
    · rw [if_neg e, if_neg e, peval_mul1 (all8_lagP j) (getD_lt h8 j) hx, ih]
theorem lagB_eq (xs : List Nat) (i : Nat) : ∀ j, lagB xs i j = prodAt xs i (xs.getD i 0) j
  | 0 => rfl
  | j + 1 => by
    have ih := lagB_eq xs i j
    unfold lagB prodAt
    rw [ih]
theorem prodAt_zero {xs : List Nat} {i x : Nat} : ∀ {j : Nat}, prodAt xs i x j = 0 ↔ ∃ k, k < j ∧ k ≠ i ∧ x = xs.getD k 0
  | 0 => by
    constructor
    · intro h; exact absurd h (by decide : (1 : Nat) ≠ 0)
    · rintro ⟨k, hk, _⟩; omega
  | j + 1 => by
    have ih := @prodAt_zero xs i x j
    unfold prodAt
    by_cases e : j = i
    · rw [if_pos e, ih]
      constructor
      · rintro ⟨k, hk, r⟩; exact ⟨k, by omega, r⟩
      · rintro ⟨k, hk, h1, h2⟩; exact ⟨k, by omega, h1, h2⟩
    · rw [if_neg e]
      constructor
      · intro h
        rcases gm_eq_zero h with h | h
        · obtain ⟨k, hk, r⟩ := ih.mp h; exact ⟨k, by omega, r⟩
        · exact ⟨j, by omega, e, xor_eq_zero h⟩
      · rintro ⟨k, hk, h1, h2⟩
        by_cases hkj : k = j
        · subst hkj
          rw [h2, Nat.xor_self, gm_zero_right]
        · rw [ih.mpr ⟨k, by omega, h1, h2⟩, gm_zero_left]
end Mine
namespace Mine
/-! ## Interpolation and its uniqueness -/
theorem lagW_succ (xs ys : List Nat) (i : Nat) (hi : i < xs.length) : lagW xs ys (i + 1) = List.zipWith (· ^^^ ·) (lagW xs ys i) ((lagP xs i xs.length).map fun c => gm c (gd (ys.getD i 0) (lagB xs i xs.length))) := by
  have hl := lagW_len xs ys i
  have hp : (lagP xs i xs.length).length = xs.length := by rw [lagP_len, if_pos hi]
  apply List.ext_getElem
  · simp [lagW, hl, hp]
  · intro m h1 h2
    have hm : m < xs.length := by simpa [lagW] using h1
    simp only [lagW, List.getElem_map, List.getElem_range, List.getElem_zipWith]
    congr 1
    · simp [List.getD_eq_getElem?_getD, hl, hm]
    · simp [List.getD_eq_getElem?_getD, hp, hm]
theorem all8_lagW {xs ys : List Nat} : ∀ i, All8 (lagW xs ys i)
  | 0 => fun c hc => by rw [List.eq_of_mem_replicate (show c ∈ List.replicate xs.length 0 from hc)]; decide
  | i + 1 => fun c hc => by
    unfold lagW at hc
    obtain ⟨m, _, rfl⟩ := List.mem_map.mp hc
    exact xor_lt (getD_lt (all8_lagW i) m) (gm_lt _ _)
def sumAt (xs ys : List Nat) (x : Nat) : Nat → Nat
  | 0 => 0
  | i + 1 => sumAt xs ys x i ^^^ gm (prodAt xs i x xs.length) (gd (ys.getD i 0) (lagB xs i xs.length))
theorem pev_zeros {x : Nat} : ∀ n, pev x (List.replicate n 0) 0 = 0
  | 0 => rfl
  | n + 1 => by
    show pev x (List.replicate n 0) (gm 0 x ^^^ 0) = 0
    rw [gm_zero_left, Nat.xor_zero]; exact pev_zeros n
theorem peval_lagW {xs ys : List Nat} (h8 : All8 xs) {x : Nat} (hx : x < 256) : ∀ i, i ≤ xs.length → peval (lagW xs ys i) x = sumAt xs ys x i
  | 0, _ => pev_zeros _
  | i + 1, hi => by
    have ih := peval_lagW (ys := ys) h8 hx i (by omega)
    have hp : (lagP xs i xs.length).length = xs.length := by rw [lagP_len, if_pos (by omega)]
    unfold peval
    rw [lagW_succ xs ys i (by omega)]
    have e := pev_zip (a := 0) (b := 0) hx (p := lagW xs ys i) (q := (lagP xs i xs.length).map fun c => gm c (gd (ys.getD i 0) (lagB xs i xs.length))) (by rw [lagW_len, List.length_map, hp]) (all8_lagW i) (fun c hc => by obtain ⟨d, _, rfl⟩ := List.mem_map.mp hc; exact gm_lt _ _) (by decide) (by decide)
    rw [Nat.xor_self] at e
    rw [e]
    show _ = sumAt xs ys x i ^^^ _
    congr 1
    have e2 := pev_scale hx (gd_lt (ys.getD i 0) (lagB xs i xs.length)) (y := 0) (all8_lagP (xs := xs) (i := i) xs.length) (by decide)
    rw [gm_zero_left] at e2
    rw [e2]
    congr 1
    exact peval_lagP h8 hx _
theorem sumAt_place {xs ys : List Nat} (h8 : All8 xs) (hy8 : All8 ys) (hok : ∀ i, i < xs.length → lagB xs i xs.length ≠ 0) {k : Nat} (hk : k < xs.length) : ∀ i, sumAt xs ys (xs.getD k 0) i = if k < i then ys.getD k 0 else 0
  | 0 => by rw [if_neg (by omega)]; rfl
  | i + 1 => by
    show sumAt xs ys (xs.getD k 0) i ^^^ gm (prodAt xs i (xs.getD k 0) xs.length) (gd (ys.getD i 0) (lagB xs i xs.length)) = _
    rw [sumAt_place h8 hy8 hok hk i]
    by_cases e : k = i
    · subst e
      rw [if_neg (by omega), if_pos (by omega), Nat.zero_xor, ← lagB_eq, gm_comm, gm_gd (getD_lt hy8 k) (lagB_lt _ _ _) (hok k hk)]
    · have z : prodAt xs i (xs.getD k 0) xs.length = 0 := prodAt_zero.mpr ⟨k, hk, e, rfl⟩
      rw [z, gm_zero_left, Nat.xor_zero]
      by_cases h : k < i
      · rw [if_pos h, if_pos (by omega)]
      · rw [if_neg h, if_neg (by omega)]
/-- the interpolation has the given values at the places -/
theorem interp {xs ys : List Nat} (h8 : All8 xs) (hy8 : All8 ys) (hok : ∀ i, i < xs.length → lagB xs i xs.length ≠ 0) {k : Nat} (hk : k < xs.length) : peval (lagW xs ys xs.length) (xs.getD k 0) = ys.getD k 0 := by
  rw [peval_lagW h8 (getD_lt h8 k) _ (Nat.le_refl _), sumAt_place h8 hy8 hok hk, if_pos hk]
/-- division by x - a -/
def quo (a : Nat) : Nat → List Nat → List Nat
  | _, [] => []
  | y, c :: r => y :: quo a (gm y a ^^^ c) r
theorem quo_len (a : Nat) : ∀ (r : List Nat) (y : Nat), (quo a y r).length = r.length
  | [], _ => rfl
  | _ :: r, _ => by simp [quo, quo_len a r]
theorem all8_quo {a : Nat} : ∀ {r : List Nat} {y : Nat}, All8 r → y < 256 → All8 (quo a y r)
  | [], _, _, _ => fun c hc => by cases hc
  | c :: r, y, hr, hy => fun d hd => by
    rcases List.mem_cons.mp hd with rfl | hd
    · exact hy
    · exact all8_quo hr.tail (xor_lt (gm_lt _ _) hr.head) d hd
theorem quo_spec {a x : Nat} (ha : a < 256) (hx : x < 256) : ∀ {r : List Nat} {y q : Nat}, All8 r → y < 256 → q < 256 → pev x r (gm q (x ^^^ a) ^^^ y) = gm (pev x (quo a y r) q) (x ^^^ a) ^^^ pev a r y
  | [], _, _, _, _, _ => rfl
  | c :: r, y, q, hr, hy, hq => by
    have hxa := xor_lt hx ha
    show pev x r (gm (gm q (x ^^^ a) ^^^ y) x ^^^ c) = gm (pev x (quo a (gm y a ^^^ c) r) (gm q x ^^^ y)) (x ^^^ a) ^^^ pev a r (gm y a ^^^ c)
    rw [← quo_spec ha hx hr.tail (xor_lt (gm_lt _ _) hr.head) (xor_lt (gm_lt _ _) hy)]
    congr 1
    rw [gm_xor_left (gm_lt _ _) hy hx, gm_xor_left (gm_lt _ _) hy hxa, gm_swap hq hxa hx, gm_xor hy hx ha]
    simp only [Nat.xor_assoc]
    congr 2
    rw [← Nat.xor_assoc (gm y a), Nat.xor_self, Nat.zero_xor]
theorem quo_zero {a : Nat} : ∀ {r : List Nat} {y : Nat}, (∀ z ∈ quo a y r, z = 0) → pev a r y = 0 → y = 0 ∧ ∀ z ∈ r, z = 0
  | [], y, _, h => ⟨h, fun z hz => by cases hz⟩
  | c :: r, y, hz, h => by
    have y0 : y = 0 := hz y (List.mem_cons_self ..)
    subst y0
    have h' : pev a r (gm 0 a ^^^ c) = 0 := h
    have hz' : ∀ z ∈ quo a (gm 0 a ^^^ c) r, z = 0 := fun z hq => hz z (List.mem_cons_of_mem _ hq)
    rw [gm_zero_left, Nat.zero_xor] at h' hz'
    obtain ⟨c0, r0⟩ := quo_zero hz' h'
    exact ⟨rfl, fun z hq => (List.mem_cons.mp hq).elim (fun e => e ▸ c0) fun m => r0 z m⟩
theorem roots {p : List Nat} : ∀ {xs : List Nat}, All8 p → All8 xs → xs.length = p.length → xs.Nodup → (∀ x ∈ xs, peval p x = 0) → ∀ z ∈ p, z = 0 := by
  induction hn : p.length generalizing p with
  | zero => intro xs _ _ _ _ _ z hz; rw [List.length_eq_zero_iff.mp hn] at hz; cases hz
  | succ n ih =>
    intro xs hp hx hl hd h0
    cases p with
    | nil => cases hn
    | cons c r =>
      cases xs with
      | nil => cases hl
      | cons a xs =>
        rw [List.nodup_cons] at hd
        have key : ∀ x, x < 256 → peval (c :: r) x = gm (pev x (quo a c r) 0) (x ^^^ a) ^^^ pev a r c := fun x hx' => by
          have := quo_spec hx.head hx' (q := 0) hp.tail hp.head (by decide)
          rw [gm_zero_left, Nat.zero_xor] at this
          show pev x r (gm 0 x ^^^ c) = _
          rw [gm_zero_left, Nat.zero_xor]; exact this
        have ha0 : pev a r c = 0 := by
          have := h0 a (List.mem_cons_self ..)
          rw [key a hx.head, Nat.xor_self, gm_zero_right, Nat.zero_xor] at this
          exact this
        have q0 : ∀ z ∈ quo a c r, z = 0 := by
          refine ih (p := quo a c r) (by rw [quo_len]; simpa using hn) (xs := xs) (all8_quo hp.tail hp.head) hx.tail (by simpa using hl) hd.2 fun x hxm => ?_
          have := h0 x (List.mem_cons_of_mem _ hxm)
          rw [key x (hx.tail x hxm), ha0, Nat.xor_zero] at this
          rcases gm_eq_zero this with h | h
          · exact h
          · exact absurd (xor_eq_zero h) (fun e => hd.1 (e ▸ hxm))
        obtain ⟨c0, r0⟩ := quo_zero q0 ha0
        intro z hz
        rcases List.mem_cons.mp hz with rfl | hz
        · exact c0
        · exact r0 z hz
/-- one polynomial through given values -/
theorem peval_xor {p q : List Nat} {x : Nat} (hx : x < 256) (hl : p.length = q.length) (hp : All8 p) (hq : All8 q) : peval (List.zipWith (· ^^^ ·) p q) x = peval p x ^^^ peval q x := by
  have := pev_zip (a := 0) (b := 0) hx hl hp hq (by decide) (by decide)
  rwa [Nat.xor_self] at this
theorem unique {p q xs : List Nat} (hp : All8 p) (hq : All8 q) (hl : p.length = q.length) (hx : All8 xs) (hxl : xs.length = p.length) (hd : xs.Nodup) (h : ∀ x ∈ xs, peval p x = peval q x) : p = q := by
  have z := roots (p := List.zipWith (· ^^^ ·) p q) (xs := xs) (fun c hc => by
    obtain ⟨i, hi, rfl⟩ := List.getElem_of_mem hc
    simp only [List.length_zipWith] at hi
    rw [List.getElem_zipWith]
    exact xor_lt (hp _ (List.getElem_mem _)) (hq _ (List.getElem_mem _))) hx (by simp; omega) hd fun x hxm => by rw [peval_xor (hx x hxm) hl hp hq, h x hxm, Nat.xor_self]
  apply List.ext_getElem hl
  intro i h1 h2
  apply xor_eq_zero
  refine z _ ?_
  have : i < (List.zipWith (· ^^^ ·) p q).length := by simp; omega
  have := List.getElem_mem this
  rwa [List.getElem_zipWith] at this
end Mine
namespace Mine
/-! ## The law's own sums are the polynomial's values -/
theorem gexp_two : ∀ b : Nat, b < 8 → gexp b = 2 ^ b := by decide
theorem mod_succ (c b : Nat) : c % 2 ^ (b + 1) = c % 2 ^ b ^^^ (if c / 2 ^ b % 2 = 1 then 2 ^ b else 0) := by
  have hb : c % 2 ^ b < 2 ^ b := Nat.mod_lt _ (Nat.pow_pos (by decide))
  have e : c % 2 ^ (b + 1) = c % 2 ^ b + 2 ^ b * (c / 2 ^ b % 2) := by rw [Nat.pow_succ, Nat.mod_mul]
  rw [e]
  by_cases h : c / 2 ^ b % 2 = 1
  · rw [h, if_pos rfl, Nat.mul_one]
    have := xor_add_and (c % 2 ^ b) (2 ^ b)
    have z : c % 2 ^ b &&& 2 ^ b = 0 := by
      apply Nat.eq_of_testBit_eq
      intro i
      simp only [Nat.testBit_and, Nat.testBit_two_pow, Nat.zero_testBit]
      by_cases hi : b = i
      · subst hi; simp [Nat.testBit_lt_two_pow hb]
      · simp [hi]
    rw [z] at this
    omega
  · have : c / 2 ^ b % 2 = 0 := by omega
    rw [this, if_neg (by omega)]; simp
theorem fmod_add_gexp (sh : Int) (b : Nat) : gexp ((sh + b).fmod 255).toNat = gexp ((sh.fmod 255).toNat + b) := by
  have r1 := fmod_range sh (n := 255) (by omega)
  rw [← gexp_mod ((sh.fmod 255).toNat + b)]
  congr 1
  have e1 : sh.fmod 255 = sh % 255 := Int.fmod_eq_emod_of_nonneg _ (by omega)
  have e2 : (sh + b).fmod 255 = (sh + b) % 255 := Int.fmod_eq_emod_of_nonneg _ (by omega)
  rw [e1] at r1 ⊢
  rw [e2]
  omega
theorem bitsum_eq {c : Nat} (sh : Int) : ∀ b, b ≤ 8 → bitsum c sh b = gm (c % 2 ^ b) (gexp (sh.fmod 255).toNat)
  | 0, _ => by rw [Nat.pow_zero, Nat.mod_one, gm_zero_left]; rfl
  | b + 1, hb => by
    show bitsum c sh b ^^^ _ = _
    rw [bitsum_eq sh b (by omega), mod_succ]
    have h1 : c % 2 ^ b < 256 := Nat.lt_of_lt_of_le (Nat.mod_lt _ (Nat.pow_pos (by decide))) (Nat.pow_le_pow_right (by decide) (by omega) : 2 ^ b ≤ 2 ^ 8)
    have h2 : (if c / 2 ^ b % 2 = 1 then 2 ^ b else 0) < 256 := by
      split
      · exact Nat.lt_of_lt_of_le (Nat.pow_lt_pow_right (by decide) (by omega : b < 8)) (Nat.le_refl _)
      · decide
    rw [gm_xor_left h1 h2 (gexp_lt _)]
    congr 1
    by_cases h : c / 2 ^ b % 2 = 1
    · rw [if_pos h, if_pos h, ← gexp_two b (by omega), gm_exp, fmod_add_gexp, Nat.add_comm]
    · rw [if_neg h, if_neg h, gm_zero_left]
theorem bitsum8 {c : Nat} (hc : c < 256) (sh : Int) : bitsum c sh 8 = gm c (gexp (sh.fmod 255).toNat) := by
  rw [bitsum_eq sh 8 (Nat.le_refl _), Nat.mod_eq_of_lt hc]
/-- powers of a place -/
def pwr (e : Int) (m : Nat) : Nat := gexp ((e * m).fmod 255).toNat
theorem pwr_succ (e : Int) (m : Nat) : pwr e (m + 1) = gm (gexp (e.fmod 255).toNat) (pwr e m) := by
  unfold pwr
  rw [gm_exp, ← gexp_mod (_ + _)]
  have r1 := fmod_range e (n := 255) (by omega)
  have r2 := fmod_range (e * m) (n := 255) (by omega)
  congr 1
  have e1 : e.fmod 255 = e % 255 := Int.fmod_eq_emod_of_nonneg _ (by omega)
  have e2 : (e * m).fmod 255 = (e * m) % 255 := Int.fmod_eq_emod_of_nonneg _ (by omega)
  have e3 : (e * ((m + 1 : Nat) : Int)).fmod 255 = (e * ((m + 1 : Nat) : Int)) % 255 := Int.fmod_eq_emod_of_nonneg _ (by omega)
  have e4 : e * ((m + 1 : Nat) : Int) = e * m + e := by rw [Int.natCast_add, Int.mul_add]; simp
  rw [e1] at r1 ⊢
  rw [e2] at r2 ⊢
  rw [e3, e4]
  generalize e * (m : Int) = z at *
  omega
theorem pwr_zero (e : Int) : pwr e 0 = 1 := by unfold pwr; simp; rfl
def sumP (e : Int) : List Nat → Nat
  | [] => 0
  | c :: r => gm c (pwr e r.length) ^^^ sumP e r
theorem sumP_lt (e : Int) : ∀ r, sumP e r < 256
  | [] => by show 0 < 256; decide
  | c :: r => xor_lt (gm_lt _ _) (sumP_lt e r)
theorem pwr_lt (e : Int) (m : Nat) : pwr e m < 256 := gexp_lt _
theorem pev_sumP (e : Int) : ∀ {r : List Nat} {y : Nat}, All8 r → y < 256 → pev (gexp (e.fmod 255).toNat) r y = gm y (pwr e r.length) ^^^ sumP e r
  | [], y, _, hy => by
    show y = gm y (pwr e 0) ^^^ 0
    rw [pwr_zero, Nat.xor_zero, gm_comm, gm_one hy]
  | c :: r, y, hr, hy => by
    show pev _ r (gm y (gexp (e.fmod 255).toNat) ^^^ c) = gm y (pwr e (r.length + 1)) ^^^ (gm c (pwr e r.length) ^^^ sumP e r)
    rw [pev_sumP e hr.tail (xor_lt (gm_lt _ _) hr.head), gm_xor_left (gm_lt _ _) hr.head (pwr_lt _ _), pwr_succ, gm_assoc hy (gexp_lt _) (pwr_lt _ _), Nat.xor_assoc]
theorem lawv_sumP {os : List Nat} (h8 : All8 os) (e : Int) : ∀ k, k ≤ os.length → lawv os e k ^^^ sumP e (os.drop k) = sumP e os
  | 0, _ => by show 0 ^^^ _ = _; rw [Nat.zero_xor, List.drop_zero]
  | k + 1, hk => by
    rw [← lawv_sumP h8 e k (by omega), List.drop_eq_getElem_cons (by omega : k < os.length)]
    show (lawv os e k ^^^ bitsum (os.getD k 0) (e * ((os.length : Int) - 1 - k)) 8) ^^^ _ = lawv os e k ^^^ (gm os[k] (pwr e (os.drop (k + 1)).length) ^^^ _)
    rw [bitsum8 (getD_lt h8 k), Nat.xor_assoc]
    congr 2
    have : os.getD k 0 = os[k] := by simp [List.getD_eq_getElem?_getD, show k < os.length by omega]
    rw [this, List.length_drop]
    congr 1
    unfold pwr
    congr 4
    omega
theorem lawv_peval {os : List Nat} (h8 : All8 os) (e : Int) : lawv os e os.length = peval os (gexp (e.fmod 255).toNat) := by
  have h1 := lawv_sumP h8 e os.length (Nat.le_refl _)
  rw [List.drop_length] at h1
  have h2 := pev_sumP e (y := 0) h8 (by decide)
  rw [gm_zero_left, Nat.zero_xor] at h2
  unfold peval
  rw [h2, ← h1]
  show _ = _ ^^^ 0
  rw [Nat.xor_zero]
theorem hor_pev {b : Array UInt8} {x : Nat} : ∀ {p : List Nat}, AL b p → ∀ k, k < p.length → hor b x k = pev x (p.take (k + 1)) 0
  | p, h, 0, hk => by
    cases p with
    | nil => cases hk
    | cons c r =>
      show bAt b 0 = gm 0 x ^^^ c
      rw [h.2 0 hk, gm_zero_left, Nat.zero_xor]; rfl
  | p, h, k + 1, hk => by
    show gm (hor b x k) x ^^^ bAt b (k + 1) = _
    rw [hor_pev h k (by omega), h.2 (k + 1) hk]
    have : p.take (k + 1 + 1) = p.take (k + 1) ++ [p.getD (k + 1) 0] := by
      rw [List.take_succ_eq_append_getElem hk]
      simp [List.getD_eq_getElem?_getD, hk]
    rw [this, pev_snoc]
theorem hor_peval {b : Array UInt8} {x : Nat} {p : List Nat} (h : AL b p) (h0 : 0 < p.length) : hor b x (b.size - 1) = peval p x := by
  rw [h.1, hor_pev h (p.length - 1) (by omega), show p.length - 1 + 1 = p.length by omega, List.take_length]
end Mine
namespace Mine
open PySem PySem.W PyProof.Rows PySem.Calls
open Sem (wp)
section
variable {prog : Program} {w : World} {s : Shared} {A : Around} {env : Env} {h : Heap}
/-- a part of a slice: left out, or an int -/
def EvO (M : Model) (s : Shared) (A : Around) (env : Env) (h : Heap) (e : Option Expr) (i : Option Int) : Prop :=
  ∀ h₁, Keep h h₁ → ∀ (Q : Value → Heap → Prop) (X : Value → Heap → Prop), (∀ v h₂, Keep h₁ h₂ → IsPart v i → Q v h₂) → wpH M s A (valueOrNone (evalOpt e env)) Q X h₁
theorem EvO.none : EvO (model prog w) s A env h none none := fun h₁ _ Q X q => wpH_pure (q _ _ Keep.rfl .none)
theorem EvO.some {e : Expr} {i : Int} (x : Ev (model prog w) s A env h e (IsI i)) : EvO (model prog w) s A env h (some e) (some i) := fun h₁ k Q X q => x h₁ k _ _ fun v h₂ k₂ hv => by
  obtain ⟨t, rfl⟩ := hv _ Keep.rfl
  exact q _ _ k₂ (.int i t)
theorem Ev.lslice {value : Expr} {lower upper : Option Expr} {p pos : Pos} {ns : List Int} {lo hi : Option Int} (y : Ev (model prog w) s A env h value (IsIL ns)) (zl : EvO (model prog w) s A env h lower lo) (zu : EvO (model prog w) s A env h upper hi) (hsz : ns.length ≤ 1000) :
    Ev (model prog w) s A env h (.Subscript value (.Slice lower upper none p) pos) (NewL h (pickNums ns lo hi none)) := fun h₁ k₁ Q X q => by
  show wpH _ _ _ (do let o ← eval value env; let i' ← holding [o] (eval (.Slice lower upper none p) env); standAt pos; let r ← subscripted (.Slice lower upper none p) (← getitemInPython o) o i'; letTemporaryGo value o r; pure r) _ _ _
  refine wpH_bind (y h₁ k₁ _ _ fun o h₂ k₂ ho => wpH_bind (wpH_holding ?_))
  rw [arm_eval_Slice]
  refine wpH_bind (zl h₂ (k₁.trans k₂) _ _ fun vl h₃ k₃ hvl => wpH_bind (wpH_holding (zu h₃ ((k₁.trans k₂).trans k₃) _ _ fun vu h₄ k₄ hvu => wpH_bind (wpH_holding (wpH_pure ?_)))))
  refine wpH_any fun tk => wpAny_newObj_type (s := stt s h₄ tk) ⟨_, _, rfl, wpH_bind (wpH_standAt ?_)⟩
  obtain ⟨l, vs, rfl, hl, hi'⟩ := ho _ (k₃.trans k₄)
  have hl' : (h₄.push { cls := .type "slice", data := .fields #[vl, vu, .none] }).IsList l vs.toArray := hl.push _
  have hT : ∀ tk, (stt s (h₄.push { cls := .type "slice", data := .fields #[vl, vu, .none] }) tk).TypeIs (.ref l) "list" := fun tk => Heap.IsList.typeIs (s := stt s _ tk) hl'
  have hsl : (h₄.push { cls := .type "slice", data := .fields #[vl, vu, .none] }).IsSliceOf h₄.objs.size vl vu .none := Heap.IsSliceOf.new ..
  refine wpH_any fun tk => ?_
  refine wpAny_bind ?_
  rw [getitemInPython_of_ne (hT tk).not_modules]
  refine wpAny_bind (wpAny_specialOf (hT tk) slot_list_getitem.lookup (wpAny_pure ?_))
  refine wpAny_bind (show wpAny _ _ (operate [.ref h₄.objs.size, .ref l] (getItem (.ref l) (.ref h₄.objs.size))) _ _ _ from wpAny_operating ?_)
  have hlen : vs.length = ns.length := hi'.length
  refine wpAny_getItem_list_slice (s := stt s _ tk) hl' hsl hvl hvu .none (by simp) ?_ (by simp [hlen]; exact sz_of _ hsz)
  refine wpAny_bind (wpAny_letTemporaryGo (wpAny_pure ⟨_, _, rfl, q _ _ ?_ fun h₅ k₅ => ⟨_, (slicePick vs.toArray lo hi none).toList, 0, rfl, ?_, k₅ _ _ (by rw [Heap.get?_push_size _ rfl]), hi'.pick lo hi none⟩⟩))
  · exact ((k₂.trans k₃).trans k₄).trans fun b o e => Heap.get?_push_of_some _ (Heap.get?_push_of_some _ e)
  · refine none_of_keep (h₁ := h₄) (((k₁.trans k₂).trans k₃).trans k₄) (Heap.get?_none_of_le ?_)
    show _ ≤ (h₄.push _).objs.size
    rw [Heap.size_push]; exact Nat.le_succ _
theorem Ev.ladd {e e' : Expr} {pos : Pos} {ns ms : List Int} (y : Ev (model prog w) s A env h e (IsIL ns)) (z : Ev (model prog w) s A env h e' (IsIL ms)) (hn : ns.length ≤ 1000) (hm : ms.length ≤ 1000) : Ev (model prog w) s A env h (.BinOp e .Add e' pos) (NewL h (ns ++ ms)) := fun h₁ k₁ Q X q => by
  refine wpH_BinOp (y h₁ k₁ _ _ fun v h₂ k₂ hv => z h₂ (k₁.trans k₂) _ _ fun u h₃ k₃ hu => ?_)
  obtain ⟨a, vs, rfl, ha, hi⟩ := hv _ k₃
  obtain ⟨b, ws, rfl, hb, hj⟩ := hu _ Keep.rfl
  obtain ⟨⟨c1, d1, da1, s1⟩, o1, p1, n1, q1⟩ := ha
  obtain ⟨⟨c2, d2, da2, s2⟩, o2, p2, n2, q2⟩ := hb
  simp only at p1 q1 p2 q2
  subst p1 q1 p2 q2
  have l1 := hi.length
  have l2 := hj.length
  have e : vs.toArray ++ ws.toArray = (vs ++ ws).toArray := by simp
  refine wpH_any fun tk => concat_meets (s := stt s h₃ tk) ⟨_, o1, rfl⟩ ⟨_, o2, rfl⟩ noFill_list_add seq_list_add PySem.F.slot_list_add PySem.F.entry_list_add (PySem.F.args_list_add_2 _ _) (list_addW a b vs.toArray ws.toArray n1 n2 d1 d2 s1 s2 (by have := sz_of 1000 (by decide); rw [sizeLine_eq] at this ⊢; simp; omega)) ⟨o1, o2, ?_⟩
  rw [e]
  refine ⟨_, _, rfl, q _ _ ((k₂.trans k₃).trans fun b o e => Heap.get?_push_of_some _ e) fun h₄ k₄ => ⟨_, vs ++ ws, 0, rfl, ?_, k₄ _ _ (Heap.get?_push_size _ rfl), hi.append hj⟩⟩
  exact none_of_keep (h₁ := h₃) ((k₁.trans k₂).trans k₃) (Heap.get?_none_of_le (Nat.le_refl _))
end
end Mine
namespace Mine
open PySem PySem.W PyProof.Rows PySem.Calls
open Sem (wp)
section
variable {prog : Program} {w : World} {s : Shared} {A : Around} {env : Env} {h : Heap} {l r : Expr} {pos : Pos}
theorem cline_eq : cLine = 9900 := rfl
/-- lists of ints compared -/
theorem Ev.neLs {ns ms : List Int} (x : Ev (model prog w) s A env h l (IsIL ns)) (y : Ev (model prog w) s A env h r (IsIL ms)) (hu : A.units + 64 < 9900) (hm : behindInMarks .NotEq r = false := by with_unfolding_all rfl) :
    Ev (model prog w) s A env h (.Compare l [.NotEq] [r] pos) (Is (.bool (!decide (ns = ms)))) := fun h₁ k Q X q =>
  wpH_Compare1 (x h₁ k _ _ fun v h₂ k₂ hv => y h₂ (k.trans k₂) _ _ fun u h₃ k₃ hu' => by
    obtain ⟨a, vs, rfl, ha, hi⟩ := hv _ k₃
    obtain ⟨b, us, rfl, hb, hj⟩ := hu' _ Keep.rfl
    exact wpH_any fun tk => ne_intsK (s := stt s h₃ tk) ha hi hb hj (by rw [cline_eq]; exact hu) ⟨h₃, tk, rfl, q _ _ (k₂.trans k₃) fun _ _ => rfl⟩) hm
theorem EvT.neLs {ns ms : List Int} (x : Ev (model prog w) s A env h l (IsIL ns)) (y : Ev (model prog w) s A env h r (IsIL ms)) (hu : A.units + 64 < 9900) (hm : behindInMarks .NotEq r = false := by with_unfolding_all rfl) :
    EvT (model prog w) s A env h (.Compare l [.NotEq] [r] pos) (!decide (ns = ms)) := fun h₁ k Q X q =>
  wpH_isTrue_Compare1 (x h₁ k _ _ fun v h₂ k₂ hv => y h₂ (k.trans k₂) _ _ fun u h₃ k₃ hu' => by
    obtain ⟨a, vs, rfl, ha, hi⟩ := hv _ k₃
    obtain ⟨b, us, rfl, hb, hj⟩ := hu' _ Keep.rfl
    exact wpH_any fun tk => ne_intsK (s := stt s h₃ tk) ha hi hb hj (by rw [cline_eq]; exact hu) ⟨h₃, tk, rfl, wpH_any fun tk => wpAny_truthy_bool ⟨h₃, tk, rfl, q _ (k₂.trans k₃)⟩⟩) hm
theorem Ev.inL {ns : List Int} {i : Int} (x : Ev (model prog w) s A env h l (IsI i)) (y : Ev (model prog w) s A env h r (IsIL ns)) (hm : behindInMarks .In r = false := by with_unfolding_all rfl) :
    Ev (model prog w) s A env h (.Compare l [.In] [r] pos) (Is (.bool (ns.any (· == i)))) := fun h₁ k Q X q =>
  wpH_Compare1 (x h₁ k _ _ fun v h₂ k₂ hv => y h₂ (k.trans k₂) _ _ fun u h₃ k₃ hu' => by
    obtain ⟨t, rfl⟩ := hv _ Keep.rfl
    obtain ⟨b, us, rfl, hb, hj⟩ := hu' _ Keep.rfl
    exact wpH_any fun tk => in_list_ints (s := stt s h₃ tk) hb hj ⟨h₃, tk, rfl, q _ _ (k₂.trans k₃) fun _ _ => rfl⟩) hm
end
end Mine
namespace Mine
open PySem PySem.W PyProof.Rows PySem.Calls
open Sem (wp)
/-! ## list(bytearray) -/
namespace B
theorem slot_iter : Slot "bytearray" "__iter__" "bytearray.__iter__" :=
  .of (owner := "bytearray") (n := "__iter__") (by rw [typeLookup_type, builtinLookup_eq_fast]; kernel_rfl) (by decide +kernel) (by decide +kernel) (by decide +kernel)
    (by first | exact .inl (by decide +kernel) | exact .inr (by decide +kernel)) (by rw [isSubtype_type]; kernel_rfl)
theorem slot_next : Slot "bytearray_iterator" "__next__" "bytearray_iterator.__next__" :=
  .of (owner := "bytearray_iterator") (n := "__next__") (by rw [typeLookup_type, builtinLookup_eq_fast]; kernel_rfl) (by decide +kernel) (by decide +kernel) (by decide +kernel)
    (by first | exact .inl (by decide +kernel) | exact .inr (by decide +kernel)) (by rw [isSubtype_type]; kernel_rfl)
theorem slot_iiter : Slot "bytearray_iterator" "__iter__" "bytearray_iterator.__iter__" :=
  .of (owner := "bytearray_iterator") (n := "__iter__") (by rw [typeLookup_type, builtinLookup_eq_fast]; kernel_rfl) (by decide +kernel) (by decide +kernel) (by decide +kernel)
    (by first | exact .inl (by decide +kernel) | exact .inr (by decide +kernel)) (by rw [isSubtype_type]; kernel_rfl)
theorem entry_iter : entryFor table "bytearray.__iter__" = some Builtin.«bytearray.__iter__» := entryFor_of_tree (by kernel_rfl)
theorem entry_next : entryFor table "bytearray_iterator.__next__" = some Builtin.«bytearray_iterator.__next__» := entryFor_of_tree (by kernel_rfl)
theorem entry_iiter : entryFor table "bytearray_iterator.__iter__" = some Builtin.«dict_keyiterator.__iter__» :=
  entryFor_alias (id' := "dict_keyiterator.__iter__") (by rw [fastTable_eq_tree]; kernel_rfl) (by decide +kernel) (by decide +kernel) (by rw [fastTable_eq_tree]; kernel_rfl)
theorem args_iter (a : Value) : argsOk "bytearray.__iter__" ⟨[a], []⟩ := by
  first | exact trivial | (unfold argsOk; decide +kernel) | kernel_rfl | (intros; rfl)
theorem args_next (a : Value) : argsOk "bytearray_iterator.__next__" ⟨[a], []⟩ := by
  first | exact trivial | (unfold argsOk; decide +kernel) | kernel_rfl | (intros; rfl)
theorem args_iiter (a : Value) : argsOk "bytearray_iterator.__iter__" ⟨[a], []⟩ := by
  first | exact trivial | (unfold argsOk; decide +kernel) | kernel_rfl | (intros; rfl)
end B
abbrev biO (a : Addr) (k : Nat) : Obj := { cls := .type "bytearray_iterator", dict := none, data := .fields #[.ref a, rawInt k], slots := #[] }
section
variable {prog : Program} {w : World} {A : Around} {E : Value → Shared → Prop} {s : Shared}
theorem pyIter_ba {a : Addr} {b : Array UInt8} {Q : Value → Shared → Prop} (ha : s.heap.get? a = some (ba b)) (hQ : Q (.ref s.heap.objs.size) { s with heap := s.heap.push (biO a 0) }) : wpAny (model prog w) A (pyIter (.ref a)) Q E s := by
  refine wpAny_pyIter_slot (typeIs_ba ha) B.slot_iter (wpAny_call_entry B.slot_iter (typeIs_ba ha) B.entry_iter ?_ (B.args_iter _))
  show wpAny _ _ (do ret (← newFields "bytearray_iterator" [.ref a, rawInt 0])) _ _ s
  exact wpAny_bind (wpAny_newObj_type (wpAny_pure ⟨_, rfl, "bytearray_iterator", _, ⟨_, Heap.get?_push_size _ rfl, rfl⟩, B.slot_next.lookup, hQ⟩))
theorem pyNext_ba_item {it a : Addr} {b : Array UInt8} {k : Nat} {Q : Option Value → Shared → Prop} (hit : s.heap.get? it = some (biO a k)) (ha : s.heap.get? a = some (ba b)) (hk : k < b.size)
    (hQ : ∀ h', h'.get? it = some (biO a (k + 1)) → Heap.SameBut it s.heap h' → Q (some (.int (bAt b k) s.toks)) { s with heap := h', toks := s.toks + 1 }) : wpAny (model prog w) A (pyNext (.ref it)) Q E s := by
  have hT : s.TypeIs (.ref it) "bytearray_iterator" := ⟨_, hit, rfl⟩
  unfold pyNext
  refine wpAny_bind (wpAny_attempt (wpAny_callSpecial?_slot (name := Str.ofString "__next__") hT B.slot_next (wpAny_call_entry B.slot_next hT B.entry_next ?_ (B.args_next _))))
  show wpAny _ _ (field (.ref it) 0 >>= _) _ _ s
  refine wpAny_bind (wpAny_field hit rfl (x := .ref a) rfl ?_)
  refine wpAny_bind (wpAny_load ha ?_)
  refine wpAny_bind (wpAny_field hit rfl (x := rawInt k) rfl ?_)
  have e : b[(k : Int).toNat]? = some (b.getD k 0) := by simp [Array.getD, hk]
  show wpAny _ _ (match b[(k : Int).toNat]? with | some c => (do setField (.ref it) 1 (rawInt ((k : Int) + 1)); retInt c.toNat) | none => _) _ _ _
  rw [e]
  refine wpAny_bind (wpAny_setField hit rfl (by simp) ?_)
  refine wpAny_bind (wpAny_mkInt (wpAny_pure ⟨_, rfl, wpAny_pure (hQ _ ?_ (Heap.SameBut.update ..))⟩))
  rw [Heap.get?_update_self _ hit rfl]
  rfl
theorem pyNext_ba_end {it a : Addr} {b : Array UInt8} {k : Nat} {Q : Option Value → Shared → Prop} (hh : A.handled = none) (hit : s.heap.get? it = some (biO a k)) (ha : s.heap.get? a = some (ba b)) (hk : b.size ≤ k)
    (hQ : ∀ h', Heap.ExtBut it s.heap h' → Q none { s with heap := h' }) : wpAny (model prog w) A (pyNext (.ref it)) Q E s := by
  have hT : s.TypeIs (.ref it) "bytearray_iterator" := ⟨_, hit, rfl⟩
  unfold pyNext
  refine wpAny_bind (wpAny_attempt (wpAny_callSpecial?_slot (name := Str.ofString "__next__") hT B.slot_next (wpAny_call_entry B.slot_next hT B.entry_next ?_ (B.args_next _))))
  show wpAny _ _ (field (.ref it) 0 >>= _) _ _ s
  refine wpAny_bind (wpAny_field hit rfl (x := .ref a) rfl ?_)
  refine wpAny_bind (wpAny_load ha ?_)
  refine wpAny_bind (wpAny_field hit rfl (x := rawInt k) rfl ?_)
  have e : b[(k : Int).toNat]? = none := by simp [hk]
  show wpAny _ _ (match b[(k : Int).toNat]? with | some c => _ | none => (do rule "bytearray_iterator.__next__.end"; setField (.ref it) 0 .none; letGo [.ref a]; Builtin.SmallTypes.stopIteration)) _ _ _
  rw [e]
  refine wpAny_bind (wpAny_rule (wpAny_bind (wpAny_setField hit rfl (by simp) (wpAny_bind (wpAny_letGo ?_)))))
  show wpAny _ _ (newExc (.type "StopIteration") [] >>= _) _ _ _
  refine wpAny_bind ?_
  simp only [newExc, newTuple]
  refine wpAny_bind (wpAny_newObj_type ?_ (by size_fits))
  refine wpAny_bind (m := firstArgMember _ _) (wpAny_of_eq (a := Value.none) (by first | rfl | (simp only [firstArgMember]; rfl)) ?_)
  refine wpAny_newObj_type ?_ (by size_fits)
  simp only [raiseNew]
  refine wpAny_bind (wpAny_handled ?_)
  first | rw [show A.in1.handled = none from hh] | rw [hh]
  refine wpAny_bind (wpAny_pure (wpAny_throw ?_))
  refine wpAny_bind (wpAny_isInstance (T := "StopIteration") (b := true) ⟨_, Heap.get?_push_size _ rfl, rfl⟩ isSubtype_stop ?_)
  exact wpAny_pure (hQ _ (((Heap.SameBut.update ..).extBut.push _).push _))
theorem walks_ba (hh : A.handled = none) (I a : Addr) (hne : a ≠ I) (b : Array UInt8) :
    Walks prog w A I [I, a] [I] b.size (fun i v => ∃ t, v = .int (bAt b i) t) (fun i h => h.get? I = some (biO a i) ∧ h.get? a = some (ba b)) where
  sub := fun b hb => by simp at hb; simp [hb]
  frame := fun _ _ _ st hk => ⟨hk I (by simp) _ st.1, hk a (by simp) _ st.2⟩
  item := fun i s Q E hi st hQ => pyNext_ba_item st.1 st.2 hi fun h' hit' hs' => hQ _ h' _ ⟨_, rfl⟩ ⟨hit', (hs'.2 a hne).trans st.2⟩ fun b o hb e => hs'.extBut b o (fun h => hb (by simp [h])) e
  done := fun s Q E st hQ => pyNext_ba_end hh st.1 st.2 (Nat.le_refl _) fun h' he' => hQ h' s.toks fun b o hb e => he' b o (fun h => hb (by simp [h])) e
  self := fun i s Q E st hQ => by
    have hT : s.TypeIs (.ref I) "bytearray_iterator" := ⟨_, st.1, rfl⟩
    refine wpAny_pyIter_slot hT B.slot_iiter (wpAny_call_entry B.slot_iiter hT B.entry_iiter ?_ (B.args_iiter _))
    show wpAny _ _ (ret (.ref I)) _ _ s
    exact wpAny_pure ⟨_, rfl, "bytearray_iterator", _, hT, B.slot_next.lookup, hQ⟩
theorem extend_ba {R : Result → Shared → Prop} (hh : A.handled = none) {a : Addr} {b : Array UInt8} (ha : s.heap.get? a = some (ba b)) (S : Addr) (res : Value) (c₀ : Nat) (hS : s.heap.get? S = some { cls := .type "list", data := .seq #[] c₀ })
    (hR : ∀ h' tk acc' c', (∀ b o, b ≠ S → s.heap.get? b = some o → h'.get? b = some o) → h'.get? S = some { cls := .type "list", dict := none, data := .seq acc' c', slots := #[] } →
      ItemsOf (fun i v => ∃ t, v = .int (bAt b i) t) acc' b.size → R (.ok (.ret res)) { s with heap := h', toks := tk }) (hn : b.size ≤ sizeLine) :
    wpAny (model prog w) A.in1 (Builtin.List.listExtendWith (.ref S) (.ref a) res)
      (fun fin s' => match fin with | .done f => R (.ok f) s' | .again c' => c'.quiet = true ∧ codeAny (model prog w) A c' R s') (fun e s' => R (.error e) s') s := by
  have hSa : S ≠ a := fun e => by rw [e, ha] at hS; simp at hS
  have hSI : S ≠ s.heap.objs.size := Nat.ne_of_lt (Heap.lt_size hS)
  have haI : a ≠ s.heap.objs.size := Nat.ne_of_lt (Heap.lt_size ha)
  have hSf : S ∉ [s.heap.objs.size, a] := fun hm => by
    simp only [List.mem_cons, List.not_mem_nil, or_false] at hm
    rcases hm with h | h
    · exact hSI h
    · exact hSa h
  unfold Builtin.List.listExtendWith
  refine wpAny_bind (wpAny_typeOf (T := "bytearray") (typeIs_ba ha) ?_)
  have h1 : Builtin.List.listSameRef (.ref S) (.ref a) = false := by simp [Builtin.List.listSameRef, hSa]
  have h2 : (Value.type "bytearray" == Value.type "list") = false := by decide
  have h3 : (Value.type "bytearray" == Value.type "tuple") = false := by decide
  simp only [h1, h2, h3, Bool.or_false, Bool.false_eq_true, if_false]
  refine wpAny_bind (pyIter_ba ha ?_)
  refine wpAny_bind (wpAny_holding ?_)
  have ha₁ := Heap.get?_push_of_some (biO a 0) ha
  have hS₁ := Heap.get?_push_of_some (biO a 0) hS
  unfold Builtin.List.listLengthHint
  refine wpAny_bind (wpAny_specialOf (T := "bytearray") (typeIs_ba ha₁) B.slot_len.lookup ?_)
  wp_delta
  refine wpAny_bind (wpAny_isInstance (T := "bytearray") (b := true) (typeIs_ba ha₁) (by rw [isSubtype_type]; kernel_rfl) ?_)
  show wpAny _ _ (typeOf (Value.ref a) >>= _) _ _ _
  refine wpAny_bind (wpAny_typeOf (T := "bytearray") (typeIs_ba ha₁) ?_)
  refine wpAny_pure ?_
  rw [if_neg (by decide)]
  refine wpAny_pure ⟨plainId_quiet F.plain_extend_loop _, codeAny_extend_loopS (walks_ba (A := A.in1) hh _ a haI b).toS hn _ hSf _ b.size 0 _ _ _ rfl (Nat.zero_le _) ⟨Heap.get?_push_size _ rfl, ha₁⟩ hS₁ (ItemsOf.nil _) fun s' acc' c' hm hS' hacc => ?_⟩
  rw [Moved.eq_with hm]
  refine hR s'.heap s'.toks acc' c' (fun b ob hb e => hm.heap b ob (fun hmem => ?_) (Heap.get?_push_of_some _ e)) hS' hacc
  rcases List.mem_cons.mp hmem with e' | hmem
  · exact hb e'
  · exact absurd (Heap.lt_size e) (by rw [List.mem_singleton.mp hmem]; exact Nat.lt_irrefl _)
theorem list_init_ba {R : Result → Shared → Prop} (hh : A.handled = none) {a : Addr} {b : Array UInt8} (ha : s.heap.get? a = some (ba b)) (S : Addr) (hS : s.heap.get? S = some { cls := .type "list", data := .seq #[] })
    (hR : ∀ h' tk acc' c', (∀ b o, b ≠ S → s.heap.get? b = some o → h'.get? b = some o) → h'.get? S = some { cls := .type "list", dict := none, data := .seq acc' c', slots := #[] } →
      ItemsOf (fun i v => ∃ t, v = .int (bAt b i) t) acc' b.size → R (.ok (.ret .none)) { s with heap := h', toks := tk }) (hn : b.size ≤ sizeLine) :
    wpAny (model prog w) A.in1 (Builtin.«list.__init__» ⟨[.ref S, .ref a], []⟩)
      (fun fin s' => match fin with | .done f => R (.ok f) s' | .again c' => c'.quiet = true ∧ codeAny (model prog w) A c' R s') (fun e s' => R (.error e) s') s := by
  have hSa : S ≠ a := fun e => by rw [e, ha] at hS; simp at hS
  show wpAny _ _ (do let old ← Builtin.List.listItems (.ref S); Builtin.List.listUpdate (.ref S) (fun _ => #[]); letGo old.toList.reverse; Builtin.List.listExtendWith (.ref S) (.ref a) .none) _ _ s
  refine wpAny_bind ?_
  unfold Builtin.List.listItems
  refine wpAny_bind (wpAny_seqItems hS rfl (wpAny_pure ?_))
  show wpAny _ _ (updateSeq S (fun _ => #[]) >>= fun _ => letGo (#[] : Array Value).toList.reverse >>= fun _ => Builtin.List.listExtendWith (.ref S) (.ref a) .none) _ _ s
  refine wpAny_bind (wpAny_updateSeq hS rfl ?_)
  have hS₂ := Heap.get?_update_self (Obj.mapSeq (fun _ => (#[] : Array Value))) hS rfl
  have oth : ∀ b o, b ≠ S → s.heap.get? b = some o → (s.heap.update S (Obj.mapSeq (fun _ => (#[] : Array Value)))).get? b = some o :=
    fun b o hb e => (Heap.get?_update_other _ _ (Ne.symm hb)).trans e
  refine wpAny_bind (wpAny_letGo ?_)
  refine extend_ba (hn := hn) hh (oth _ _ (Ne.symm hSa) ha) S .none _ hS₂ fun h' tk acc' c' hk hS' hacc => ?_
  exact hR h' tk acc' c' (fun b o hb e => hk b o hb (oth b o hb e)) hS' hacc
theorem call_list_ba {Q : Value → Shared → Prop} (hh : A.handled = none) {a : Addr} {b : Array UInt8} (ha : s.heap.get? a = some (ba b)) (hn : b.size ≤ sizeLine)
    (hQ : ∀ h' tk acc' c', (∀ b o, s.heap.get? b = some o → h'.get? b = some o) →
      h'.get? s.heap.objs.size = some { cls := .type "list", dict := none, data := .seq acc' c', slots := #[] } → ItemsOf (fun i v => ∃ t, v = .int (bAt b i) t) acc' b.size → Q (.ref s.heap.objs.size) { s with heap := h', toks := tk }) :
    wpAny (model prog w) A (call (.type "list") [.ref a]) Q E s := by
  refine callType_codes (Q₁ := fun obj s₁ => obj = .ref s.heap.objs.size ∧ s₁ = { s with heap := s.heap.push { cls := .type "list", data := .seq #[] } }) F.called_list (F.typeCall_list_1 _) F.entry_list_init
    (code_list_new _ ⟨rfl, rfl⟩) fun obj s₁ h₁ => ?_
  obtain ⟨rfl, rfl⟩ := h₁
  have hS : (s.heap.push { cls := .type "list", data := .seq #[] }).get? s.heap.objs.size = some { cls := .type "list", data := .seq #[] } := Heap.get?_push_size _ rfl
  refine ⟨⟨_, hS, rfl⟩, F.args_list_init_2 _ _, list_init_ba (A := A.in1) (hn := hn) hh (Heap.get?_push_of_some _ ha) _ hS fun h' tk acc' c' hk hS' hacc => ?_⟩
  exact ⟨rfl, hQ h' tk acc' c' (fun b o e => hk b o (Nat.ne_of_lt (Heap.lt_size e)) (Heap.get?_push_of_some _ e)) hS' hacc⟩
end
end Mine
namespace Mine
open PySem PySem.W PyProof.Rows PySem.Calls
open Sem (wp)
/-! ## More rules, for the law -/
section
variable {B : Addr → Option Obj} {L a : Addr} {l l' : List (Str × Value)} {N N' : List (Addr × Obj)} {h h' : Heap} {o : Obj}
theorem Fra.perm (F : Fra B L l N h) (p : N.Perm N') : Fra B L l N' h :=
  ⟨F.ns, F.keep, fun q hq => F.news q (p.mem_iff.mpr hq), fun q hq => F.apart q (p.mem_iff.mpr hq), F.own, (p.map (·.1)).nodup_iff.mp F.nodup⟩
theorem frz {h₀ : Heap} {Kn : List (Addr × Obj)} (h0 : ∀ b o, h₀.get? b = some o → B b = some o) (hK : ∀ p ∈ Kn, B p.1 = some p.2) (F : Fra B L l ((a, o) :: N) h) :
    ∃ B', (∀ b o, h₀.get? b = some o → B' b = some o) ∧ (∀ p ∈ (a, o) :: Kn, B' p.1 = some p.2) ∧ Fra B' L l N h := by
  have hA := (F.apart _ (List.mem_cons_self ..)).1
  refine ⟨_, fun b p e => ?_, fun p hp => ?_, F.freeze⟩
  · have : b ≠ a := fun z => by have := h0 b p e; rw [z, hA] at this; cases this
    simp only [this, if_false]; exact h0 b p e
  · rcases List.mem_cons.mp hp with rfl | hp
    · simp
    · have : p.1 ≠ a := fun z => by have := hK p hp; rw [z, hA] at this; cases this
      simp only [this, if_false]; exact hK p hp
/-- all that stands is kept, but the names -/
theorem Fra.all (F : Fra B L l N h) : Fra (fun b => if b = L then none else h.get? b) L l [] h := by
  refine ⟨F.ns, fun b o e => ?_, fun p hp => (nomatch hp), fun p hp => (nomatch hp), by simp, List.nodup_nil⟩
  by_cases hb : b = L
  · simp [hb] at e
  · simpa [hb] using e
theorem Fra.sub_all (F : Fra B L l N h) : ∀ b o, B b = some o → (fun b => if b = L then none else h.get? b) b = some o := fun b o e => by
  have : b ≠ L := fun z => by rw [z, F.own] at e; cases e
  simp only [this, if_false]; exact F.keep b o e
end
section
variable {prog : Program} {w : World} {s : Shared} {A : Around} {env : Env} {h : Heap} {B : Addr → Option Obj} {L : Addr} {l : List (Str × Value)} {N : List (Addr × Obj)} {X : Value → Heap → Prop} {fa : Nat → Addr} {la ea : Addr} {lg ex : Array UInt8} {mg mb : Str → Option Value}
/-- a new list stored to a cell, a name -/
theorem asgCellL {x : Str} {p pos : Pos} {e : Expr} {ns : List Int} {c : Addr} {v₀ : Option Value} {Q : Flow → Heap → Prop} (F : Fra B L l ((c, cellO v₀) :: N) h) (y : Ev (model prog w) s A env h e (NewL h ns))
    (q : ∀ a vs m h', IntsAre vs ns → Fra B L l ((c, cellO (some (.ref a))) :: (a, liO vs m) :: N) h' → Q .next h') (hs : swapsWith e (some (.Name x p)) pos.line env = pure false := by rfl)
    (hc : env.cells.lookup x = some c := by rfl) (hl : env.kindOf x = some .cell := by rfl) (hk : env.scope.kind = .function := by rfl) : wpH (model prog w) s A (exec (.Assign [.Name x p] e pos) env) Q X h :=
  wpH_Assign_Name (y.wp fun v h₁ k hv => by
    obtain ⟨a, vs, m, rfl, hn, hg, hi⟩ := hv _ Keep.rfl
    have F₁ := F.fresh k hn hg
    refine wpH_storeCell F₁ (.tail _ (.head _)) (fun h' _ F' => q a vs m h' hi ?_) hc hl hk
    have nd := F₁.nodup
    simp only [List.map_cons, List.nodup_cons, List.mem_cons, not_or] at nd
    have hne : a ≠ c := nd.1.1
    have e : updN c (cellO (some (.ref a))) ((a, liO vs m) :: (c, cellO v₀) :: N) = (a, liO vs m) :: (c, cellO (some (.ref a))) :: N := by simp [updN, hne]
    rw [e] at F'
    exact F'.perm (.swap ..)) hs
theorem asgL {x : Str} {p pos : Pos} {e : Expr} {ns : List Int} {Q : Flow → Heap → Prop} (F : Fra B L l N h) (y : Ev (model prog w) s A env h e (NewL h ns))
    (q : ∀ a vs m h', IntsAre vs ns → Fra B L (setL x (.ref a) l) ((a, liO vs m) :: N) h' → Q .next h') (hs : swapsWith e (some (.Name x p)) pos.line env = pure false := by rfl)
    (hL : env.locals = L := by rfl) (hl : env.kindOf x = some .local := by rfl) (hk : env.scope.kind = .function := by rfl) : wpH (model prog w) s A (exec (.Assign [.Name x p] e pos) env) Q X h :=
  wpH_Assign_Name (y.wp fun v h₁ k hv => by
    obtain ⟨a, vs, m, rfl, hn, hg, hi⟩ := hv _ Keep.rfl
    exact wpH_store (F.fresh k hn hg) (fun h' sb F' => q a vs m h' hi F') hL hl hk) hs
/-- a value that is no object -/
theorem asgV {x : Str} {p pos : Pos} {e : Expr} {v : Value} {Q : Flow → Heap → Prop} (F : Fra B L l N h) (y : Ev (model prog w) s A env h e (Is v))
    (q : ∀ h', Fra B L (setL x v l) N h' → Q .next h') (hs : swapsWith e (some (.Name x p)) pos.line env = pure false := by rfl)
    (hL : env.locals = L := by rfl) (hl : env.kindOf x = some .local := by rfl) (hk : env.scope.kind = .function := by rfl) : wpH (model prog w) s A (exec (.Assign [.Name x p] e pos) env) Q X h :=
  asg F y (fun v' h₁ h' _ hv _ F' => by obtain rfl := hv _ Keep.rfl; exact q h' F') hs hL hl hk
theorem Ev.neg {e : Expr} {pos : Pos} {i : Int} (y : Ev (model prog w) s A env h e (IsI i)) : Ev (model prog w) s A env h (.UnaryOp .USub e pos) (IsI (-i)) := fun h₁ k Q X q => by
  rw [arm_eval_UnaryOp]
  refine wpH_bind (y h₁ k _ _ fun v h₂ k₂ hv => wpH_bind (wpH_standAt (wpH_holding ?_)))
  obtain ⟨t, rfl⟩ := hv _ Keep.rfl
  exact wpH_any fun tk => PyProof.Rows.neg_int (s := stt s h₂ tk) ⟨h₂, _, rfl, q _ _ k₂ fun _ _ => ⟨_, rfl⟩⟩
/-- sorted(xs) -/
theorem Ev.sorted {x : Str} {e : Expr} {p pos : Pos} {ns : List Int} (y : Ev (model prog w) s A env h (.Name x p) (Is (.builtin "sorted"))) (z : Ev (model prog w) s A env h e (IsIL ns)) (h64 : ns.length < 64)
    (he : starEach [e] env = (false, eval e env) :: starEach [] env := by rfl) (hne : ∀ pos, (backTo pos (starEach [e] env)).all (fun x => !x.1) = true := by intro _; rfl) :
    Ev (model prog w) s A env h (.Call (.Name x p) [e] [] pos) (fun v h' => ∃ ns', ns'.Perm ns ∧ ns'.Pairwise (· ≤ ·) ∧ NewL h ns' v h') :=
  Ev.call y rfl (EvL.cons z EvL.nil he) (fun vs h₁ k₁ hvs Q X q => by
    obtain ⟨v, r, rfl, ⟨a, vs', rfl, ha, hi⟩, rfl⟩ := hvs
    have hl : vs'.length = ns.length := hi.length
    refine wpH_any fun tk => sorted_ints (s := stt s h₁ tk) ha hi (by omega) fun out ns' a1 a2 a3 => ?_
    obtain ⟨m, hm⟩ := sortedAll_at h₁ vs' out
    refine ⟨_, _, rfl, q _ _ (fun _ _ => sortedAll_old) fun h₃ k₃ => ⟨ns', a2, a3, _, out.toList, m, rfl, ?_, k₃ _ _ (by rw [show (liO out.toList m) = seqObj "list" out m by simp [liO, seqObj]]; exact hm), a1⟩⟩
    exact none_of_keep k₁ (Heap.get?_none_of_le (Nat.le_succ _))) hne
/-- tests of a name that is a bool -/
theorem EvT.bool {e : Expr} {b : Bool} (x : Ev (model prog w) s A env h e (Is (.bool b))) (he : ∀ whole, isTrue e env whole = (do let v ← whole; standAt e.pos; holding [v] (truthy v)) := by intro _; rfl) : EvT (model prog w) s A env h e b :=
  fun h₁ k Q X q => wpH_isTrue_value (x h₁ k _ _ fun v h₂ k₂ hv => by
    obtain rfl := hv _ Keep.rfl
    exact wpH_any fun tk => wpAny_truthy_bool ⟨h₂, tk, rfl, q _ k₂⟩) (he _)
theorem Ev.eqI {l r : Expr} {pos : Pos} {a b : Int} (x : Ev (model prog w) s A env h l (IsI a)) (y : Ev (model prog w) s A env h r (IsI b)) (hm : behindInMarks .Eq r = false := by with_unfolding_all rfl) : Ev (model prog w) s A env h (.Compare l [.Eq] [r] pos) (Is (.bool (a == b))) :=
  fun h₁ k Q X q => wpH_Compare1 (x h₁ k _ _ fun v h₂ k₂ hv => y h₂ (k.trans k₂) _ _ fun u h₃ k₃ hu => by
    obtain ⟨t, rfl⟩ := hv _ Keep.rfl
    obtain ⟨t', rfl⟩ := hu _ Keep.rfl
    exact wpH_any fun tk => eq_int ⟨h₃, tk, rfl, q _ _ (k₂.trans k₃) fun _ _ => rfl⟩) hm
theorem EvT.neB {l r : Expr} {pos : Pos} {a b : Bool} (x : Ev (model prog w) s A env h l (Is (.bool a))) (y : Ev (model prog w) s A env h r (Is (.bool b))) (hm : behindInMarks .NotEq r = false := by with_unfolding_all rfl) : EvT (model prog w) s A env h (.Compare l [.NotEq] [r] pos) (a != b) :=
  fun h₁ k Q X q => wpH_isTrue_Compare1 (x h₁ k _ _ fun v h₂ k₂ hv => y h₂ (k.trans k₂) _ _ fun u h₃ k₃ hu => by
    obtain rfl := hv _ Keep.rfl
    obtain rfl := hu _ Keep.rfl
    exact wpH_any fun tk => PyProof.Rows.ne_bool ⟨h₃, tk, rfl, wpH_any fun tk => wpAny_truthy_bool ⟨h₃, tk, rfl, q _ (k₂.trans k₃)⟩⟩) hm
theorem Ev.andB {l r : Expr} {pos : Pos} {a b : Bool} (x : Ev (model prog w) s A env h l (Is (.bool a))) (y : a = true → Ev (model prog w) s A env h r (Is (.bool b))) : Ev (model prog w) s A env h (.BoolOp .And [l, r] pos) (Is (.bool (a && b))) := fun h₁ k Q X q => by
  rw [arm_eval_BoolOp]
  show wpH _ _ _ (do let v ← eval l env; standAt pos; let t ← holding [v] (truthy v); match BoolOp.And, t with | .And, false | .Or, true => pure v | _, _ => eval r env) _ _ _
  refine wpH_bind (x h₁ k _ _ fun v h₂ k₂ hv => wpH_bind (wpH_standAt (wpH_bind (wpH_holding ?_))))
  obtain rfl := hv _ Keep.rfl
  refine wpH_any fun tk => wpAny_truthy_bool ⟨h₂, tk, rfl, ?_⟩
  cases a with
  | false => exact wpH_pure (q _ _ k₂ fun _ _ => rfl)
  | true => exact y rfl h₂ (k.trans k₂) _ _ fun v h₃ k₃ hv => q _ _ (k₂.trans k₃) hv
/-- list(bytearray) -/
theorem Ev.listB {x : Str} {e : Expr} {p pos : Pos} {b : Array UInt8} (y : Ev (model prog w) s A env h (.Name x p) (Is (.type "list"))) (z : Ev (model prog w) s A env h e (IsB b)) (hb : b.size ≤ 1000) (hh : A.handled = none)
    (he : starEach [e] env = (false, eval e env) :: starEach [] env := by rfl) (hne : ∀ pos, (backTo pos (starEach [e] env)).all (fun x => !x.1) = true := by intro _; rfl) :
    Ev (model prog w) s A env h (.Call (.Name x p) [e] [] pos) (NewL h ((List.range b.size).map fun i => (bAt b i : Int))) :=
  Ev.call y rfl (EvL.cons z EvL.nil he) (fun vs h₁ k₁ hvs Q X q => by
    obtain ⟨v, r, rfl, ⟨a, rfl, ha⟩, rfl⟩ := hvs
    refine wpH_any fun tk => call_list_ba (s := stt s h₁ tk) hh ha (sz_of _ hb) fun h' tk' acc' c' hk hg hit => ⟨h', tk', rfl, q _ _ hk fun h₃ k₃ => ⟨_, acc'.toList, c', rfl, ?_, k₃ _ _ (by simpa using hg), ?_⟩⟩
    · exact none_of_keep k₁ (Heap.get?_none_of_le (Nat.le_refl _))
    · obtain ⟨h1, h2⟩ := hit
      have key : ∀ (l : List Value) (k : Nat), (∀ (j : Nat) (v : Value), l[j]? = some v → ∃ t, v = Value.int (bAt b (k + j) : Nat) t) → IntsAre l ((List.range' k l.length).map fun i => (bAt b i : Int)) := by
        intro l
        induction l with
        | nil => intro k _; exact .nil
        | cons v r ih =>
          intro k hk
          obtain ⟨t, rfl⟩ := hk 0 v rfl
          show IntsAre _ (_ :: (List.range' (k + 1) r.length).map _)
          refine .cons _ t (ih (k + 1) fun j v hj => ?_)
          have := hk (j + 1) v (by simpa using hj)
          rwa [show k + (j + 1) = k + 1 + j by omega] at this
      have := key acc'.toList 0 (fun j v hj => by
        have := h2 j v (by simpa using hj)
        rwa [Nat.zero_add])
      rw [Array.length_toList, h1, ← List.range_eq_range'] at this
      exact this) hne
/-- xs.append(v), as a statement -/
theorem appendL {x : Str} {px apos cpos pos : Pos} {e : Expr} {a : Addr} {vs : List Value} {m : Nat} {i : Int} {Q : Flow → Heap → Prop} (F : Fra B L l ((a, liO vs m) :: N) h)
    (y : Ev (model prog w) s A env h (.Name x px) (Is (.ref a))) (z : Ev (model prog w) s A env h e (IsI i)) (hsz : vs.length ≤ 1000)
    (q : ∀ t m' h', Fra B L l ((a, liO (vs ++ [.int i t]) m') :: N) h' → Q .next h')
    (hform : methodCallForm (([e] : List Expr).length + ([] : List Keyword).length) (backTo cpos (starEach [e] env)) (backToKw cpos (keywordEach [] env)) = true := by rfl)
    (hbase : attributeBase (.Name x px) "append" env (eval (.Name x px) env) = eval (.Name x px) env := by rfl) (hline : (apos.endLine == cpos.line) = true := by rfl) (htrees : backTo cpos (starEach [e] env) = [(false, eval e env)] := by rfl)
    (hi : interactive env = false := by rfl) (hs : swapsWith (.Call (.Attribute (.Name x px) "append" apos) [e] [] cpos) none pos.line env = pure false := by rfl) :
    wpH (model prog w) s A (exec (.Expr (.Call (.Attribute (.Name x px) "append" apos) [e] [] cpos) pos) env) Q X h := by
  rw [exec_Expr env _ pos hi hs]
  refine wpH_bind (wpH_standAt (wpH_bind ?_))
  rw [arm_eval_Call, hbase]
  refine wpH_bind (y h Keep.rfl _ _ fun ov h₁ k₁ hov => ?_)
  obtain rfl := hov _ Keep.rfl
  refine wpH_bind (wpH_standAt ?_)
  have hpos : methodCallPos true (.Name x px) env apos cpos = pure cpos := by unfold methodCallPos; simp [hline]
  unfold methodCall
  rw [hform]
  have F₁ := F.keeps k₁
  have hob := F₁.news _ (List.mem_cons_self ..)
  refine wpH_bind (wpH_holding (wpH_any fun tk => Calls.getMethod_list_append (s := stt s h₁ tk) hob rfl rfl ⟨h₁, tk, rfl, ?_⟩))
  refine wpH_bind (wpH_of_eq hpos (wpH_pure ?_))
  rw [htrees]
  refine fun tk => ?_
  refine (?_ : wpH (model prog w) s A (callWith cpos (.builtin "list.append") [.ref a] [(false, eval e env)] []) _ X h₁) tk
  unfold callWith
  have E1 : ∀ (Q' : Args → Heap → Prop) (X' : Value → Heap → Prop), (∀ t h₂, Keep h₁ h₂ → Q' ⟨[.int i t], []⟩ h₂) → wpH (model prog w) s A (evalArgs (.builtin "list.append") true [(false, eval e env)] []) Q' X' h₁ := fun Q' X' q' =>
    wpH_evalArgs rfl (wpH_spliced_cons (z h₁ k₁ _ _ fun v h₂ k₂ hv => wpH_spliced_nil (by obtain ⟨t, rfl⟩ := hv _ Keep.rfl; exact q' t h₂ k₂)))
  refine wpH_bind (wpH_holding (E1 _ _ fun t h₂ k₂ => wpH_bind (wpH_standAt ?_)))
  have F₂ := F₁.keeps k₂
  have hD₂ := F₂.news _ (List.mem_cons_self ..)
  refine wpH_bind (m := keeperOf (.builtin "list.append")) (wpH_of_eq (show _ = pure Keeper.machine from rfl) (wpH_pure ?_))
  refine wpH_bind ?_
  refine wpH_any fun tk => wpAny_list_append_plain (s := stt s h₂ tk) ⟨m, hD₂⟩ (fun h₃ hpl sb₃ => ⟨h₃, _, rfl, ?_⟩) (by simp; exact sz_of _ hsz)
  obtain ⟨m', hD₃⟩ := hpl
  have ee : (vs.toArray.push (Value.int i t)) = (vs ++ [Value.int i t]).toArray := by simp
  rw [ee] at hD₃
  have F₃ := F₂.upd sb₃ hD₃ (by simp)
  rw [updN_head] at F₃
  refine wpH_bind (wpH_holding (wpH_point (wpH_pure ?_)))
  exact wpH_of_eq (show _ = pure Flow.next from rfl) (wpH_pure (q t m' h₃ F₃))
end
end Mine
namespace Mine
open PySem PySem.W PyProof.Rows PySem.Calls
open Sem (wp)
theorem zapart (n a c : Nat) (ha : a < n) (hc : c < n) : ZipApart (n + 4) (n + 2) (n + 3) n (n + 1) a c := by
  constructor <;> (show ¬ (_ : Nat) = _; omega)
theorem nin4 (n b : Nat) (hb : b < n) : (b : Addr) ∉ ([n + 4, n + 3, n, n + 1] : List Addr) := fun hm => by
  simp only [List.mem_cons, List.not_mem_nil, or_false] at hm
  rcases hm with e | e | e | e <;> (have e' : (_ : Nat) = _ := e; omega)
theorem nin7 (n b a c L : Nat) (ha : a ≠ L) (hc : c ≠ L) (hL : L < n) (hb : (b : Addr) ∈ ([n + 4, n + 2, n + 3, n, n + 1, a, c] : List Addr)) : b ≠ L := fun z => by
  subst z
  simp only [List.mem_cons, List.not_mem_nil, or_false] at hb
  rcases hb with e | e | e | e | e | e | e <;> (have e' : (_ : Nat) = _ := e; omega)
section
variable {prog : Program} {w : World} {s : Shared} {A : Around} {env : Env} {h : Heap} {B : Addr → Option Obj} {L : Addr} {l : List (Str × Value)} {N : List (Addr × Obj)} {X : Value → Heap → Prop} {fa : Nat → Addr} {la ea : Addr} {lg ex : Array UInt8} {mg mb : Str → Option Value}
/-- xs[k] = v on a list of the ledger -/
theorem setL_item {o i : Expr} {pos' pos : Pos} {value : Expr} {a : Addr} {vs : List Value} {m : Nat} {k x : Int} {Q : Flow → Heap → Prop} (F : Fra B L l ((a, liO vs m) :: N) h)
    (zv : Ev (model prog w) s A env h value (IsI x)) (zo : Ev (model prog w) s A env h o (Is (.ref a))) (zi : Ev (model prog w) s A env h i (IsI k)) (h0 : 0 ≤ k) (h1 : k < vs.length) (h2 : vs.length ≤ 1000)
    (q : ∀ t o' h', o'.cls = .type "list" → (∃ m', o'.data = .seq (vs.set k.toNat (.int x t)).toArray m') → Fra B L l ((a, o') :: N) h' → Q .next h')
    (hs : swapsWith value (some (.Subscript o i pos')) pos.line env = pure false := by rfl) : wpH (model prog w) s A (exec (.Assign [.Subscript o i pos'] value pos) env) Q X h := by
  refine wpH_Assign_Subscript (zv.wp fun v h₁ k₁ hv => zo h₁ k₁ _ _ fun ov h₂ k₂ ho => zi h₂ (k₁.trans k₂) _ _ fun iv h₃ k₃ hi => ?_) hs
  obtain ⟨t, rfl⟩ := hv _ Keep.rfl
  obtain rfl := ho _ Keep.rfl
  obtain ⟨t', rfl⟩ := hi _ Keep.rfl
  have F₃ := F.keeps ((k₁.trans k₂).trans k₃)
  have ha := F₃.news _ (List.mem_cons_self ..)
  refine wpH_any fun tk => wpAny_setItem_list (s := stt s h₃ tk) (liO_isList ha) h0 (by omega) (by simp; omega) fun h' hl sb => ⟨h', tk, rfl, ?_⟩
  obtain ⟨o', ho', hc', m', hd'⟩ := hl
  have F₄ := F₃.upd sb ho' (by simp)
  rw [updN_head] at F₄
  exact q t o' h' hc' ⟨m', by rw [hd']; congr 1; simp⟩ F₄
/-- for a, b in zip(xs, ys) -/
theorem for_zip {xa xb : Str} {p pa pb pt pos cpos : Pos} {x1 : Nat} {f : Str} {e₁ e₂ : Expr} {body : List Stmt} {Q : Flow → Heap → Prop} {a c : Addr} {vs us : List Value} {ns ms : List Int} {o₁ o₂ : Obj}
    (F : Fra B L l [] h) (hh : A.handled = none) (hf : Ev (model prog w) s A env h (.Name f p) (Is (.type "zip"))) (y : Ev (model prog w) s A env h e₁ (Is (.ref a))) (z : Ev (model prog w) s A env h e₂ (Is (.ref c)))
    (hB1 : B a = some o₁) (hc1 : o₁.cls = .type "list") (hd1 : ∃ m, o₁.data = .seq vs.toArray m) (hi : IntsAre vs ns) (hB2 : B c = some o₂) (hc2 : o₂.cls = .type "list") (hd2 : ∃ m, o₂.data = .seq us.toArray m) (hj : IntsAre us ms) (hlen : ms.length = ns.length)
    (step : ∀ k B' t t' h₁, k < ns.length → (∀ b o, B b = some o → B' b = some o) → Fra B' L (setL xb (.int (ms.getD k 0) t') (setL xa (.int (ns.getD k 0) t) l)) [] h₁ →
      wpH (model prog w) s A (execs body env) (fun f h₂ => f = .next ∧ Fra B' L l [] h₂) noX h₁)
    (q : ∀ h₁, Fra B L l [] h₁ → Q .next h₁)
    (he : starEach [e₁, e₂] env = (false, eval e₁ env) :: starEach [e₂] env := by rfl) (he' : starEach [e₂] env = (false, eval e₂ env) :: starEach [] env := by rfl) (hne : ∀ pos, (backTo pos (starEach [e₁, e₂] env)).all (fun x => !x.1) = true := by intro _; rfl)
    (hs : ∀ x, foldedSetIterable (.Call (.Name f p) [e₁, e₂] [] cpos) env x = pure x := by intro _; rfl) (hL : env.locals = L := by rfl) (hla : env.kindOf xa = some .local := by rfl) (hlb : env.kindOf xb = some .local := by rfl) (hk : env.scope.kind = .function := by rfl) :
    wpH (model prog w) s A (exec (.For (.Tuple [.Name xa pa, .Name xb pb] x1 pt) (.Call (.Name f p) [e₁, e₂] [] cpos) body [] pos) env) Q X h := by
  obtain ⟨m1, hd1⟩ := hd1
  obtain ⟨m2, hd2⟩ := hd2
  have isl : ∀ {h' : Heap}, h'.get? a = some o₁ → h'.IsList a vs.toArray := fun e => ⟨o₁, e, hc1, m1, hd1⟩
  have isr : ∀ {h' : Heap}, h'.get? c = some o₂ → h'.IsList c us.toArray := fun e => ⟨o₂, e, hc2, m2, hd2⟩
  rw [exec_For]
  refine wpH_bind (wpH_standAt (wpH_bind ?_))
  refine wpH_Call (hf h Keep.rfl _ _ fun fv h₁ k₁ hfv => ?_)
  obtain rfl := hfv _ Keep.rfl
  refine wpH_callWith_val rfl (hne _) (EvL.cons y (EvL.cons z EvL.nil he') he _ h₁ k₁ _ _ fun ws h₂ k₂ hws => ?_)
  obtain ⟨v, r, rfl, hv, v', r', rfl, hv', hr⟩ := hws _ Keep.rfl
  obtain rfl : v = .ref a := hv
  obtain rfl : v' = .ref c := hv'
  obtain rfl : r' = [] := hr
  have F₂ := F.keeps (k₁.trans k₂)
  have ha₂ := F₂.keep _ _ hB1
  have hc₂ := F₂.keep _ _ hB2
  refine wpH_any fun tk => call_zip_2 (s := stt s h₂ tk) (isl ha₂) (isr hc₂) fun h₃ hz hTI hTO hi1 hi2 hsz hk₃ => ⟨h₃, _, rfl, ?_⟩
  refine wpH_bind (wpH_of_eq (hs _) (wpH_pure (wpH_bind (wpH_standAt (wpH_bind (wpH_holding ?_))))))
  dsimp only [stt] at hz hTI hTO hi1 hi2 hsz hk₃ ⊢
  refine wpH_any fun tk => wpAny_pyIter_zip (s := stt s h₃ tk) hz ⟨h₃, tk, rfl, ?_⟩
  have la := Heap.lt_size ha₂
  have lc := Heap.lt_size hc₂
  have lL : L < h₂.objs.size := by obtain ⟨m, hn, _⟩ := F₂.ns; exact hn.lt
  generalize hn₀ : h₂.objs.size = n₀ at *
  have D : ZipApart (n₀ + 4) (n₀ + 2) (n₀ + 3) n₀ (n₀ + 1) a c := zapart n₀ a c la lc
  have W := WalksT.zip2 (prog := prog) (w := w) (A := A) hh (n₀ + 4) (n₀ + 2) (n₀ + 3) n₀ (n₀ + 1) a c D vs.toArray us.toArray
  have lvs := hi.length
  have lus := hj.length
  have hmin : min vs.toArray.size us.toArray.size = ns.length := by simp; omega
  rw [hmin] at W
  have hBn : ∀ b o, B b = some o → b ∉ [n₀ + 4, n₀ + 3, n₀, n₀ + 1] := fun b o e => nin4 n₀ b (hn₀ ▸ Heap.lt_size (F₂.keep _ _ e))
  have hLn : L ∉ [n₀ + 4, n₀ + 3, n₀, n₀ + 1] := nin4 n₀ L lL
  have haL : a ≠ L := fun z => by rw [z, F.own] at hB1; cases hB1
  have hcL : c ≠ L := fun z => by rw [z, F.own] at hB2; cases hB2
  have carry : ∀ {g g' : Heap}, Fra B L l [] g → (∀ b o, b ∉ [n₀ + 4, n₀ + 3, n₀, n₀ + 1] → g.get? b = some o → g'.get? b = some o) → Fra B L l [] g' := fun F kp =>
    ⟨let ⟨m, ⟨o, es, ep, e, r⟩, y⟩ := F.ns; ⟨m, ⟨o, es, ep, kp _ _ hLn e, r⟩, y⟩, fun b o e => kp b o (hBn b o e) (F.keep b o e), fun p hp => (nomatch hp), fun p hp => (nomatch hp), F.own, List.nodup_nil⟩
  refine wpH_runOwn (codeH_for (X' := noX) (fun k g => Fra B L l [] g ∧ (fun i h => IsZip h (n₀ + 4) (n₀ + 2) (n₀ + 3) .none ∧ IsPair h (n₀ + 2) (.ref n₀) (.ref (n₀ + 1)) ∧ (∃ a b, IsPair h (n₀ + 3) a b) ∧ h.IsListIter n₀ a i ∧ h.IsListIter (n₀ + 1) c i ∧ h.IsList a vs.toArray ∧ h.IsList c us.toArray) k g) ns.length ?_ ?_ (fun _ _ q => q.elim)
    ⟨F₂.keeps hk₃, hz, hTI, ⟨_, _, hTO⟩, hi1, hi2, isl (hk₃ _ _ ha₂), isr (hk₃ _ _ hc₂)⟩)
  · rintro k g hkn ⟨Fg, St⟩
    refine wpH_any fun tk => W.item k (stt s g tk) _ _ hkn St fun T vals g₁ tk₁ hP hT ht Mid kp => ⟨g₁, tk₁, rfl, _, rfl, ?_⟩
    refine wpH_any fun tk => W.go _ _ _ k T (stt s g₁ tk) _ _ Mid fun g₂ St₂ kp₂ => ⟨g₂, tk, rfl, ?_⟩
    obtain ⟨x, y, hx, hy, rfl⟩ := hP
    obtain ⟨t, ex⟩ := intsAre_get hi k hkn
    obtain ⟨t', ey⟩ := intsAre_get hj k (by omega)
    obtain rfl : x = .int (ns.getD k 0) t := by
      have : some x = some _ := hx.symm.trans (by simpa using ex)
      exact Option.some.inj this
    obtain rfl : y = .int (ms.getD k 0) t' := by
      have : some y = some _ := hy.symm.trans (by simpa using ey)
      exact Option.some.inj this
    have F₁ := carry Fg kp
    have F₂ := carry F₁ kp₂
    have hTw : T ∉ [n₀ + 4, n₀ + 3, n₀, n₀ + 1] := W.apart k T g₁ Mid
    have ht₂ : g₂.IsTuple T #[.int (ns.getD k 0) t, .int (ms.getD k 0) t'] := by
      obtain ⟨o, e, r⟩ := ht
      exact ⟨o, kp₂ _ _ hTw e, r⟩
    refine wpH_any fun tk'' => wpAny_assign_Tuple (s := stt s g₂ tk'') hh ht₂ rfl rfl fun g₃ x₃ => ?_
    have kp₃ : Keep g₂ g₃ := fun b o e => x₃ b o (Nat.ne_of_lt (Heap.lt_size e)) e
    have F₃ := F₂.keeps kp₃
    have F₄ := F₃.all
    have hsub := F₃.sub_all
    have hp : (env.scope.kind == .class || (env.scope.kind == .module && env.locals != env.globals)) = false := by rw [hk]; rfl
    obtain ⟨m₈, hn₈, hm₈⟩ := F₄.ns
    subst hL
    show wpAny _ A (do holding [.int (ms.getD k 0) t'] (assign (.Name xa pa) env (.int (ns.getD k 0) t)); do holding [] (assign (.Name xb pb) env (.int (ms.getD k 0) t')); pure ()) _ _ _
    refine wpAny_bind (wpAny_holding (wpAny_assign_Name (wpAny_storeName_local hla hn₈ (fun h₈ hn₉ hs₉ => ?_) hp)))
    have F₉ := F₄.stored hm₈ hn₉ hs₉
    obtain ⟨m₉, hn₉', hm₉⟩ := F₉.ns
    refine wpAny_bind (wpAny_holding (wpAny_assign_Name (wpAny_storeName_local hlb hn₉' (fun h₉ hn₁₀ hs₁₀ => wpAny_pure ⟨h₉, _, rfl, ?_⟩) hp)))
    have F₁₀ := F₉.stored hm₉ hn₁₀ hs₁₀
    refine wpH_mono (step k _ t t' h₉ hkn hsub F₁₀) (fun f g₅ ⟨hf, F₅⟩ => ⟨hf, F₅.less hsub, ?_⟩) fun _ _ q => q
    have kk : ∀ b o, b ≠ env.locals → g₂.get? b = some o → g₅.get? b = some o := fun b o hb e => F₅.keep b o (by simp only [hb, if_false]; exact kp₃ _ _ e)
    exact W.frame (k + 1) g₂ g₅ St₂ fun b hb o e => kk b o (nin7 n₀ b a c env.locals haL hcL lL hb) e
  · rintro g ⟨Fg, St⟩
    exact wpH_any fun tk => W.done (stt s g tk) _ _ St fun g' tk' kp => ⟨g', tk', rfl, rfl, q g' (carry Fg kp)⟩
end
end Mine
namespace Mine
open PySem PySem.W PyProof.Rows PySem.Calls
open Sem (wp)
section
variable {prog : Program} {w : World} {s : Shared} {A : Around} {env : Env} {h : Heap} {B : Addr → Option Obj} {L : Addr} {l : List (Str × Value)} {N : List (Addr × Obj)} {X : Value → Heap → Prop} {fa : Nat → Addr} {la ea : Addr} {lg ex : Array UInt8} {mg mb : Str → Option Value}
theorem wpH_Try {body orelse : List Stmt} {h₀ : ExceptHandler} {hs : List ExceptHandler} {pos : Pos} {Q : Flow → Heap → Prop}
    (x : wpH (model prog w) s A (execs body env) (fun f h₁ => match f with | .next => wpH (model prog w) s A (execs orelse env) Q X h₁ | f => Q f h₁)
      (fun e h₁ => wpH (model prog w) s A (noteFrame e env) (fun _ h₂ => wpH (model prog w) s A (setFlight e none) (fun _ h₃ => wpH (model prog w) s A (handleBy e env (h₀ :: hs)) Q X h₃) X h₂) X h₁) h) :
    wpH (model prog w) s A (exec (.Try body (h₀ :: hs) orelse [] pos) env) Q X h := by
  rw [arm_exec_Try]
  refine wpH_bind (wpH_standAt ?_)
  unfold tryStmt
  simp only [List.isEmpty_nil, if_true, List.isEmpty_cons, Bool.false_and, Bool.false_eq_true, if_false]
  refine wpH_bind (wpH_attempt (wpH_mono x (fun f s₁ h₁ => ?_) fun e s₁ h₁ => ?_))
  · cases f <;> first | exact h₁ | exact wpH_pure h₁
  · exact wpH_bind (wpH_mono h₁ (fun _ _ h₂ => wpH_bind h₂) fun _ _ x => x)
theorem zde_base : isSubtype (.type "ZeroDivisionError") (.type "BaseException") = pure true := by rw [isSubtype_type]; kernel_rfl
theorem zde_nt : isSubtype (.type ((Manifest.find? "ZeroDivisionError").elim "type" fun x => x.metatype)) (.type "tuple") = pure false := by rw [isSubtype_type]; kernel_rfl
theorem zde_self : isSubtype (.type "ZeroDivisionError") (.type "ZeroDivisionError") = pure true := by rw [isSubtype_type]; kernel_rfl
theorem catch_zde {base hS h' : Heap} {outer : List Env} {e v : Value} {x : Str} {np rp xp pos : Pos} {Q : Flow → Heap → Prop} (D : Md fa la ea lg ex mg mb base) (F : Fra B L l N hS) (xf : XF base (env :: outer) hS e h') (hfr : A.frames = some (env :: outer)) (hf : env.frame = some L)
    (q : ∀ h'', Keep base h'' → Q (.ret v) h'')
    (hv : l.lookup x = some v := by rfl) (hL : env.locals = L := by rfl) (hk : env.scope.kind = .function := by rfl) (hg : env.globals = mainGlobals := by rfl) (hb : env.builtins = builtinsNs := by rfl)
    (hx : env.kindOf "ZeroDivisionError" = some .globalImplicit := by rfl) (hl : env.kindOf x = some .local := by rfl) (hd : (x == ("__debug__" : Str)) = false := by decide) :
    wpH (model prog w) s A (noteFrame e env) (fun _ h₂ => wpH (model prog w) s A (setFlight e none) (fun _ h₃ => wpH (model prog w) s A (handleBy e env [.ExceptHandler (some (.Name "ZeroDivisionError" np)) none [.Return (some (.Name x xp)) rp] pos]) Q X h₃) X h₂) X h' := by
  obtain ⟨ea, a0, rfl, hfl, up⟩ := xf
  refine wpH_any fun tk => wpAny_looks_onW (s := stt s h' tk) hfr hf hfl fun h₂ hh up₂ => ⟨h₂, tk, rfl, ?_⟩
  refine wpH_any fun tk => wpAny_landsW (s := stt s h₂ tk) hh fun h₃ hheld up₃ => ⟨h₃, tk, rfl, ?_⟩
  refine wpH_any fun tk => ?_
  have k₃ : Keep base h₃ := hheld.1
  have D₃ := D.keeps k₃
  obtain ⟨ob, hob, hobc⟩ := hheld.there
  refine wpAny_handleBy_builtin (s := stt s h₃ tk) (X := "ZeroDivisionError") (T := "ZeroDivisionError") (b := true) zde_base zde_nt zde_self ?_
  refine Name_function_global hk hx (loadGlobal_builtin (s := stt s h₃ tk) (hg ▸ D₃.gl.g) (D₃.fr _ (by decide)) (hb ▸ D₃.gl.b) ((D₃.gl.blt _ (by decide)).trans (by decide +kernel)) ⟨rfl, ⟨ob, hob, hobc⟩, ?_⟩)
  refine lands_againW (s := stt s h₃ tk) hheld fun h₄ hheld₄ up₄ => ?_
  obtain ⟨m, hn, hm⟩ := F.ns
  have hn₄ : h₄.Ns L m := ((((up.trans up₂).trans up₃).trans up₄)).ns hn
  refine wpAny_execs_cons ?_
  rw [exec_Return_some]
  exact wpAny_bind (wpAny_standAt (wpAny_bind (wpAny_Name (wpAny_loadName_local (s := stt s h₄ tk) hk hl (hL ▸ hn₄) (hm _ _ hv) (wpAny_pure ⟨h₄, tk, rfl, q h₄ hheld₄.1⟩)) hd)))
end
end Mine
namespace Mine
open PySem PySem.W PyProof.Rows PySem.Calls
/-! ## The law in plain Lean -/
theorem lagB_zero {xs : List Nat} {i : Nat} : lagB xs i xs.length = 0 ↔ ∃ k, k < xs.length ∧ k ≠ i ∧ xs.getD i 0 = xs.getD k 0 := by rw [lagB_eq]; exact prodAt_zero
theorem getD_of_lt {xs : List Nat} {i : Nat} (h : i < xs.length) : xs.getD i 0 = xs[i] := by simp [List.getD_eq_getElem?_getD, h]
theorem nodup_iff_lagB {xs : List Nat} : xs.Nodup ↔ ∀ i, i < xs.length → lagB xs i xs.length ≠ 0 := by
  unfold List.Nodup
  rw [List.pairwise_iff_getElem]
  constructor
  · intro nd i hi h0
    obtain ⟨k, hk, hne, e⟩ := lagB_zero.mp h0
    rw [getD_of_lt hi, getD_of_lt hk] at e
    rcases Nat.lt_or_gt_of_ne hne with h | h
    · exact nd k i hk hi h e.symm
    · exact nd i k hi hk h e
  · intro h i j hi hj hij e
    refine h i hi (lagB_zero.mpr ⟨j, hj, by omega, ?_⟩)
    rw [getD_of_lt hi, getD_of_lt hj]; exact e
structure Setting (os ch gv : List Nat) : Prop where
  o8 : All8 os
  c8 : All8 ch
  len : ch.length = os.length
  glen : gv.length = ch.length
  val : ∀ i, i < ch.length → gv.getD i 0 = peval os (ch.getD i 0)
theorem Setting.g8 {os ch gv : List Nat} (S : Setting os ch gv) : All8 gv := fun c hc => by
  obtain ⟨i, hi, rfl⟩ := List.getElem_of_mem hc
  rw [← getD_of_lt hi, S.val i (by rw [← S.glen]; exact hi)]
  exact peval_lt S.o8
/-- the octets come back -/
theorem Setting.back {os ch gv : List Nat} (S : Setting os ch gv) (nd : ch.Nodup) : lagW ch gv ch.length = os := by
  refine unique (xs := ch) (all8_lagW _) S.o8 (by rw [lagW_len]; exact S.len) S.c8 (by rw [lagW_len]) nd fun x hx => ?_
  obtain ⟨i, hi, rfl⟩ := List.getElem_of_mem hx
  rw [← getD_of_lt hi, interp S.c8 S.g8 (nodup_iff_lagB.mp nd) hi, S.val i hi]
section
variable {os ch gv : List Nat} {k d : Nat}
def turned (gv : List Nat) (k d : Nat) : List Nat := gv.set k (gv.getD k 0 ^^^ d)
theorem turned_len : (turned gv k d).length = gv.length := by simp [turned]
theorem turned_get {i : Nat} (hk : k < gv.length) : (turned gv k d).getD i 0 = if i = k then gv.getD k 0 ^^^ d else gv.getD i 0 := by
  unfold turned
  by_cases e : i = k
  · subst e; simp [List.getD_eq_getElem?_getD, hk]
  · rw [if_neg e]
    simp [List.getD_eq_getElem?_getD, List.getElem?_set, Ne.symm e]
theorem turned8 (S : Setting os ch gv) (hd : d < 256) : All8 (turned gv k d) := fun c hc => by
  unfold turned at hc
  rcases List.mem_or_eq_of_mem_set hc with h | h
  · exact S.g8 c h
  · rw [h]; exact xor_lt (getD_lt S.g8 k) hd
theorem turned_at (S : Setting os ch gv) (nd : ch.Nodup) (hk : k < ch.length) (hd : d < 256) {i : Nat} (hi : i < ch.length) : peval (lagW ch (turned gv k d) ch.length) (ch.getD i 0) = if i = k then gv.getD k 0 ^^^ d else gv.getD i 0 := by
  rw [interp S.c8 (turned8 S hd) (nodup_iff_lagB.mp nd) hi, turned_get (by rw [S.glen]; exact hk)]
theorem mem_kept {x : Nat} (hk : k < ch.length) : x ∈ ch.take k ++ ch.drop (k + 1) ↔ ∃ i, i < ch.length ∧ i ≠ k ∧ ch.getD i 0 = x := by
  rw [List.mem_append]
  constructor
  · rintro (h | h)
    · obtain ⟨i, hi, rfl⟩ := List.getElem_of_mem h
      have hi' : i < k ∧ i < ch.length := by simp at hi; omega
      exact ⟨i, hi'.2, by omega, by rw [getD_of_lt hi'.2]; simp⟩
    · obtain ⟨i, hi, rfl⟩ := List.getElem_of_mem h
      have hi' : k + 1 + i < ch.length := by simp at hi; omega
      exact ⟨k + 1 + i, hi', by omega, by rw [getD_of_lt hi']; simp⟩
  · rintro ⟨i, hi, hne, rfl⟩
    rw [getD_of_lt hi]
    by_cases h : i < k
    · left
      have : i < (ch.take k).length := by simp; omega
      have e : (ch.take k)[i] = ch[i] := by simp
      rw [← e]; exact List.getElem_mem this
    · right
      have : i - (k + 1) < (ch.drop (k + 1)).length := by simp; omega
      have e : (ch.drop (k + 1))[i - (k + 1)] = ch[i] := by simp; congr 1; omega
      rw [← e]; exact List.getElem_mem this
/-- a turned value: the old values at the other taken places and nowhere else -/
theorem turned_iff (S : Setting os ch gv) (nd : ch.Nodup) (hk : k < ch.length) (h0 : d ≠ 0) (hd : d < 256) {x : Nat} (hx : x < 256) :
    peval (lagW ch (turned gv k d) ch.length) x = peval os x ↔ x ∈ ch.take k ++ ch.drop (k + 1) := by
  constructor
  · intro e
    refine Decidable.byContradiction fun hn => ?_
    have ndk : (ch.take k ++ ch.drop (k + 1)).Nodup := by
      rw [← List.eraseIdx_eq_take_drop_succ]
      exact nd.sublist (List.eraseIdx_sublist ..)
    have lk : (ch.take k ++ ch.drop (k + 1)).length + 1 = ch.length := by simp; omega
    have : lagW ch (turned gv k d) ch.length = os := by
      refine unique (xs := x :: (ch.take k ++ ch.drop (k + 1))) (all8_lagW _) S.o8 (by rw [lagW_len]; exact S.len) (fun c hc => ?_) (by rw [lagW_len, List.length_cons, lk]) (List.nodup_cons.mpr ⟨hn, ndk⟩) fun y hy => ?_
      · rcases List.mem_cons.mp hc with rfl | hc
        · exact hx
        · obtain ⟨i, hi, _, rfl⟩ := (mem_kept hk).mp hc
          exact getD_lt S.c8 i
      · rcases List.mem_cons.mp hy with rfl | hy
        · exact e
        · obtain ⟨i, hi, hne, rfl⟩ := (mem_kept hk).mp hy
          rw [turned_at S nd hk hd hi, if_neg hne, S.val i hi]
    have h1 := turned_at S nd hk hd hk
    rw [this, if_pos rfl, ← S.val k hk] at h1
    apply h0
    have h2 : gv.getD k 0 ^^^ gv.getD k 0 = gv.getD k 0 ^^^ (gv.getD k 0 ^^^ d) := by rw [← h1]
    rw [Nat.xor_self, ← Nat.xor_assoc, Nat.xor_self, Nat.zero_xor] at h2
    exact h2.symm
  · intro hm
    obtain ⟨i, hi, hne, rfl⟩ := (mem_kept hk).mp hm
    rw [turned_at S nd hk hd hi, if_neg hne, S.val i hi]
end
/-- places that stand twice -/
theorem accL_nil {p : Nat → Bool} {f : Nat → Int} : ∀ {n : Nat}, accL p f n = [] ↔ ∀ k, k < n → p k = false
  | 0 => by simp [accL]
  | n + 1 => by
    have ih := @accL_nil p f n
    unfold accL
    cases hp : p n with
    | true =>
      simp only [if_true, List.append_eq_nil_iff, List.cons_ne_nil, and_false, false_iff]
      intro h
      have := h n (by omega)
      rw [hp] at this; cases this
    | false =>
      simp only [Bool.false_eq_true, if_false, ih]
      constructor
      · intro h k hk
        by_cases e : k = n
        · subst e; exact hp
        · exact h k (by omega)
      · intro h k hk; exact h k (by omega)
theorem nodup_nI {ch : List Nat} : (nI ch).Nodup ↔ ch.Nodup := by
  unfold nI
  constructor
  · intro h
    unfold List.Nodup at h ⊢
    rw [List.pairwise_map] at h
    exact h.imp fun hab e => hab (by rw [e])
  · intro h
    exact List.Pairwise.map _ (fun a b (hab : a ≠ b) => by omega) h
theorem sorted_nodup {so : List Int} (hs : so.Pairwise (· ≤ ·)) : so.Nodup ↔ ∀ j, j + 1 < so.length → so.getD (j + 1) 0 ≠ so.getD j 0 := by
  induction so with
  | nil => simp
  | cons a r ih =>
    rw [List.pairwise_cons] at hs
    have ih := ih hs.2
    rw [List.nodup_cons, ih]
    constructor
    · rintro ⟨h1, h2⟩ j hj
      cases j with
      | zero =>
        cases r with
        | nil => simp at hj
        | cons b r => intro e; apply h1; simp at e; rw [e]; exact List.mem_cons_self ..
      | succ j => exact h2 j (by simpa using hj)
    · intro h
      refine ⟨fun hm => ?_, fun j hj => h (j + 1) (by simpa using hj)⟩
      cases r with
      | nil => cases hm
      | cons b r =>
        have h0 := h 0 (by simp)
        have hb : a ≤ b := hs.1 b (List.mem_cons_self ..)
        rcases List.mem_cons.mp hm with e | hm
        · apply h0; simp [e]
        · have := (List.pairwise_cons.mp hs.2).1 a hm
          apply h0; simp; omega
theorem twice_iff {so : List Int} {ch : List Nat} {f : Nat → Int} (hp : so.Perm (nI ch)) (hs : so.Pairwise (· ≤ ·)) :
    accL (fun j => so.getD (j + 1) 0 == so.getD j 0) f (ch.length - 1) = [] ↔ ch.Nodup := by
  rw [← nodup_nI, ← hp.nodup_iff, sorted_nodup hs, accL_nil]
  have hl : so.length = ch.length := hp.length_eq.trans (nI_len ch)
  constructor
  · intro h j hj e
    have := h j (by omega)
    rw [e] at this; simp at this
  · intro h j hj
    have := h j (by omega)
    simpa using this
end Mine
namespace Mine
open PySem PySem.W PyProof.Rows PySem.Calls
open Sem (wp)
def LA (B : Addr → Option Obj) (x : Addr) (ns : List Int) : Prop := ∃ o vs, B x = some o ∧ o.cls = .type "list" ∧ (∃ m, o.data = .seq vs.toArray m) ∧ IntsAre vs ns
def LAh (h : Heap) (x : Addr) (ns : List Int) : Prop := ∃ vs, h.IsList x vs.toArray ∧ IntsAre vs ns
theorem LA.mono {B B' : Addr → Option Obj} {x : Addr} {ns : List Int} (y : LA B x ns) (k : ∀ b o, B b = some o → B' b = some o) : LA B' x ns := let ⟨o, vs, e, r⟩ := y; ⟨o, vs, k _ _ e, r⟩
theorem LA.at {B : Addr → Option Obj} {h : Heap} {x : Addr} {ns : List Int} (y : LA B x ns) (k : ∀ b o, B b = some o → h.get? b = some o) : LAh h x ns := let ⟨o, vs, e, c, ⟨m, d⟩, i⟩ := y; ⟨vs, ⟨o, k _ _ e, c, m, d⟩, i⟩
theorem LAh.keeps {h h' : Heap} {x : Addr} {ns : List Int} (y : LAh h x ns) (k : Keep h h') : LAh h' x ns := let ⟨vs, ⟨o, e, r⟩, i⟩ := y; ⟨vs, ⟨o, k _ _ e, r⟩, i⟩
theorem LA.li {B : Addr → Option Obj} {x : Addr} {vs : List Value} {m : Nat} {ns : List Int} (e : B x = some (liO vs m)) (i : IntsAre vs ns) : LA B x ns := ⟨_, vs, e, rfl, ⟨m, rfl⟩, i⟩
theorem map_range_getD {β : Type} (f : Int → β) : ∀ l : List Int, (List.range l.length).map (fun k => f (l.getD k 0)) = l.map f
  | [] => rfl
  | a :: r => by
    rw [List.length_cons, List.range_succ_eq_map, List.map_cons, List.map_map, List.map_cons]
    congr 1
    rw [← map_range_getD f r]
    rfl
section
variable {prog : Program} {w : World} {s : Shared} {A : Around} {env : Env} {h : Heap} {B : Addr → Option Obj} {L : Addr} {l : List (Str × Value)} {N : List (Addr × Obj)} {X : Value → Heap → Prop} {fa : Nat → Addr} {la ea : Addr} {lg ex : Array UInt8} {mg mb : Str → Option Value}
theorem frz1 {a : Addr} {o : Obj} (F : Fra B L l ((a, o) :: N) h) : ∃ B', (∀ b p, B b = some p → B' b = some p) ∧ B' a = some o ∧ Fra B' L l N h := by
  have hA := (F.apart _ (List.mem_cons_self ..)).1
  refine ⟨_, fun b p e => ?_, ?_, F.freeze⟩
  · have : b ≠ a := fun z => by rw [z, hA] at e; cases e
    simp only [this, if_false]; exact e
  · simp
theorem Ev.isH {e : Expr} {a : Addr} {ns : List Int} (x : Ev (model prog w) s A env h e (Is (.ref a))) (ha : LAh h a ns) : Ev (model prog w) s A env h e (IsIL ns) :=
  x.mono fun v h' k e => let ⟨vs, i, j⟩ := ha.keeps k; ⟨a, vs, e, i, j⟩
theorem EvL.nilI : EvL (model prog w) s A env h [] (fun vs _ => IntsAre vs []) := fun _ _ _ _ _ q => wpH_spliced_nil (q _ _ Keep.rfl fun _ _ => .nil)
theorem EvL.consI {e : Expr} {es : List Expr} {i : Int} {ns : List Int} (x : Ev (model prog w) s A env h e (IsI i)) (y : EvL (model prog w) s A env h es (fun vs _ => IntsAre vs ns))
    (he : starEach (e :: es) env = (false, eval e env) :: starEach es env := by rfl) : EvL (model prog w) s A env h (e :: es) (fun vs _ => IntsAre vs (i :: ns)) := fun pos h₁ k Q X q =>
  EvL.cons x y he pos h₁ k Q X fun vs h₂ k₂ hv => q vs h₂ k₂ fun h₃ k₃ => by
    obtain ⟨v, r, rfl, ⟨t, rfl⟩, hr⟩ := hv h₃ k₃
    exact .cons _ t hr
/-- comprehensions over a list of ints -/
theorem Ev.compL {elt iter : Expr} {x : Str} {px : Pos} {scope : Scope} {cl : List (Str × Addr)} {pos : Pos} {src : List Int} {V : Value → Heap → Prop}
    (y : Ev (model prog w) s A env h iter V) (hV : ∀ v h₁, Keep h h₁ → V v h₁ → IsIL src v h₁) (g : Int → Nat) (hn : src.length ≤ 1000) (hh : A.handled = none)
    (hclos : closureFor scope env = pure cl) (hx : scope.names.lookup x = some .local)
    (el : ∀ C i t B' h', i ∈ src → (∀ b o, h.get? b = some o → B' b = some o) → Fra B' C [(x, .int i t)] [] h' → Ev (model prog w) s A (compEnvC scope cl C env) h' elt (IsI (g i : Nat)))
    (hs : ∀ x, foldedSetIterable iter env x = pure x := by intro _; rfl) (hcell : ∀ y ∈ scope.names, y.2 ≠ .cell := by decide) (hkind : scope.kind = .function := by rfl) (hnames : ∀ y ∈ scope.names, y.2 = .local → scope.names.lookup y.1 = some .local := by decide) :
    Ev (model prog w) s A env h (.ListComp elt [⟨.Name x px, iter, [], 0⟩] scope pos) (NewL h (nI (src.map g))) := by
  have e : nI (src.map g) = accL (fun _ => true) (fun k => ((g (src.getD k 0) : Nat) : Int)) src.length := by
    rw [accL_all, map_range_getD (fun i => ((g i : Nat) : Int)) src]
    simp [nI]
  rw [e]
  refine Ev.comp y (fun v h₁ k hv => walk_list (hV v h₁ k hv) hh) _ _ (sz_of _ hn) hclos hx (fun C k v B' h' hk hi hB F' Q X q => tests_nil (q _ Keep.rfl)) (fun C k v B' h' hk hp hi hB F' => ?_) hs hcell hkind hnames
  obtain ⟨t, rfl⟩ := hi
  exact el C _ t B' h' (by simp [List.getD_eq_getElem?_getD, hk]) hB F'
theorem asgCompL {elt iter : Expr} {x yn : Str} {px py : Pos} {scope : Scope} {cl : List (Str × Addr)} {pos spos : Pos} {src : List Int} {V : Value → Heap → Prop} {Q : Flow → Heap → Prop} (F : Fra B L l N h)
    (y : Ev (model prog w) s A env h iter V) (hV : ∀ v h₁, Keep h h₁ → V v h₁ → IsIL src v h₁) (g : Int → Nat) (hn : src.length ≤ 1000) (hh : A.handled = none)
    (hclos : closureFor scope env = pure cl) (hx : scope.names.lookup x = some .local)
    (el : ∀ C i t B' h', i ∈ src → (∀ b o, h.get? b = some o → B' b = some o) → Fra B' C [(x, .int i t)] [] h' → Ev (model prog w) s A (compEnvC scope cl C env) h' elt (IsI (g i : Nat)))
    (q : ∀ D vs m h', IntsAre vs (nI (src.map g)) → Fra B L (setL yn (.ref D) l) ((D, liO vs m) :: N) h' → Q .next h')
    (hsw : swapsWith (.ListComp elt [⟨.Name x px, iter, [], 0⟩] scope pos) (some (.Name yn py)) spos.line env = pure true := by rfl)
    (hs : ∀ x, foldedSetIterable iter env x = pure x := by intro _; rfl) (hcell : ∀ y ∈ scope.names, y.2 ≠ .cell := by decide) (hkind : scope.kind = .function := by rfl) (hnames : ∀ y ∈ scope.names, y.2 = .local → scope.names.lookup y.1 = some .local := by decide)
    (hL : env.locals = L := by rfl) (hl : env.kindOf yn = some .local := by rfl) (hk : env.scope.kind = .function := by rfl) :
    wpH (model prog w) s A (exec (.Assign [.Name yn py] (.ListComp elt [⟨.Name x px, iter, [], 0⟩] scope pos) spos) env) Q X h := by
  have e : nI (src.map g) = accL (fun _ => true) (fun k => ((g (src.getD k 0) : Nat) : Int)) src.length := by
    rw [accL_all, map_range_getD (fun i => ((g i : Nat) : Int)) src]
    simp [nI]
  rw [e] at q
  refine asgComp F y (fun v h₁ k hv => walk_list (hV v h₁ k hv) hh) _ _ (sz_of _ hn) hclos hx (fun C k v B' h' hk hi hB F' Q X q => tests_nil (q _ Keep.rfl)) (fun C k v B' h' hk hp hi hB F' => ?_) q hsw hs hcell hkind hnames hL hl hk
  obtain ⟨t, rfl⟩ := hi
  exact el C _ t B' h' (by simp [List.getD_eq_getElem?_getD, hk]) hB F'
end
/-! ## The law's own lists -/
theorem pick_eq (ns : List Int) (lo hi : Option Int) : pickNums ns lo hi none = (ns.drop (lo.elim 0 (clipAt ns.length))).take (hi.elim ns.length (clipAt ns.length) - lo.elim 0 (clipAt ns.length)) := by
  unfold pickNums
  rw [sliceBounds_plain]
  simp only [sliceRange_one]
  have := pick_run ns.toArray (lo.elim 0 (clipAt ns.length)) (hi.elim ns.length (clipAt ns.length) - lo.elim 0 (clipAt ns.length))
  simpa using this
def dflt : List Int := [6, 17, 0, 250, 3, 0, 1, 25, -4, 198, 254, 100]
def nums (sc : List Int) : List Int := pickNums sc none (some 12) none ++ pickNums dflt (some sc.length) none none
theorem nums_len (sc : List Int) : (nums sc).length = 12 := by
  unfold nums
  rw [pick_eq, pick_eq]
  have h12 : clipAt sc.length (12 : Int) = min 12 sc.length := clipAt_nat sc.length 12
  have hd : dflt.length = 12 := rfl
  simp only [Option.elim, h12, clipAt_nat, hd, List.length_append, List.length_take, List.length_drop]
  omega
def sz (ns : List Int) : Nat := ((ns.getD 0 0).fmod 4 + 1).toNat
theorem sz_eq (ns : List Int) : ((sz ns : Nat) : Int) = (ns.getD 0 0).fmod 4 + 1 := by
  unfold sz; have := fmod_range (ns.getD 0 0) (n := 4) (by omega); omega
theorem sz_rg (ns : List Int) : 1 ≤ sz ns ∧ sz ns ≤ 4 := by
  have := fmod_range (ns.getD 0 0) (n := 4) (by omega)
  have := sz_eq ns
  omega
def sliceO (ns : List Int) : List Int := pickNums ns (some 1) (some (1 + (sz ns : Nat))) none
theorem sliceO_len {ns : List Int} (h : ns.length = 12) : (sliceO ns).length = sz ns := by
  unfold sliceO
  have := sz_rg ns
  rw [pick_eq]
  have e1 : clipAt ns.length (1 : Int) = min 1 ns.length := clipAt_nat ns.length 1
  have e2 : clipAt ns.length (1 + ((sz ns : Nat) : Int)) = min (1 + sz ns) ns.length := by
    rw [← clipAt_nat]; congr 1
  simp only [Option.elim, e1, e2, List.length_take, List.length_drop]
  omega
def octs (ns : List Int) : List Nat := (sliceO ns).map fun n => (n.fmod 256).toNat
theorem octs_len {ns : List Int} (h : ns.length = 12) : (octs ns).length = sz ns := by unfold octs; rw [List.length_map, sliceO_len h]
theorem octs8 (ns : List Int) : All8 (octs ns) := fun c hc => by
  obtain ⟨n, _, rfl⟩ := List.mem_map.mp hc
  have := fmod_range n (n := 256) (by omega)
  omega
def exps (ns : List Int) : List Int := pickNums ns (some 5) none none
theorem exps_len {ns : List Int} (h : ns.length = 12) : (exps ns).length = 7 := by
  unfold exps
  rw [pick_eq]
  have e1 : clipAt ns.length (5 : Int) = min 5 ns.length := clipAt_nat ns.length 5
  simp only [Option.elim, e1, List.length_take, List.length_drop]
  omega
structure StA (h₀ : Heap) (L an ao ae at' : Addr) (ns : List Int) (B : Addr → Option Obj) : Prop where
  base : ∀ b o, h₀.get? b = some o → B b = some o
  n : LA B an ns
  cn : B (L + 1) = some (cellO (some (.ref an)))
  o : LA B ao (nI (octs ns))
  co : B (L + 2) = some (cellO (some (.ref ao)))
  e : LA B ae (exps ns)
  t : LA B at' (nI tabL)
  ct : B (L + 3) = some (cellO (some (.ref at')))
theorem StA.mono {h₀ : Heap} {L an ao ae at' : Addr} {ns : List Int} {B B' : Addr → Option Obj} (S : StA h₀ L an ao ae at' ns B) (k : ∀ b o, B b = some o → B' b = some o) : StA h₀ L an ao ae at' ns B' :=
  ⟨fun b o e => k _ _ (S.base b o e), S.n.mono k, k _ _ S.cn, S.o.mono k, k _ _ S.co, S.e.mono k, S.t.mono k, k _ _ S.ct⟩
abbrev lenv (pm c doc : Value) (L f : Addr) : Env := callEnvC (fdOf 17 .none pm c doc) L f
def tabN (k : Nat) : List Nat := (List.range k).map gexp
theorem tabN_succ (k : Nat) : nI (tabN (k + 1)) = nI (tabN k) ++ [((gexp k : Nat) : Int)] := by unfold tabN nI; rw [List.range_succ]; simp
theorem xt_int (x : Nat) (h : x < 256) : Builtin.bitXor ((x : Int) * 2) ((x : Int).fdiv 128 * 285) = ((xt x : Nat) : Int) := by
  have e1 : (x : Int) * 2 = ((x * 2 : Nat) : Int) := by omega
  have e2 : (x : Int).fdiv 128 * 285 = ((x / 128 * 285 : Nat) : Int) := by
    rw [Int.fdiv_eq_ediv_of_nonneg _ (by omega)]; omega
  rw [e1, e2, bitXor_nat]; rfl
section
variable {prog : Program} {w : World} {s : Shared} {A : Around} {h h₀ : Heap} {B : Addr → Option Obj} {L : Addr} {X : Value → Heap → Prop} {fa : Nat → Addr} {la ea : Addr} {lg ex : Array UInt8} {mg mb : Str → Option Value} {env : Env}
theorem star_int {i : Int} {k : Nat} {p : Pos} (es : List Expr) : starEach (.Constant (.int i) k p :: es) env = (false, eval (.Constant (.int i) k p) env) :: starEach es env := by rfl
theorem star_un {op : UnaryOp} {e : Expr} {p : Pos} (es : List Expr) : starEach (.UnaryOp op e p :: es) env = (false, eval (.UnaryOp op e p) env) :: starEach es env := by rfl
theorem EvL.ci {i : Int} {k : Nat} {p : Pos} {es : List Expr} {ns : List Int} (y : EvL (model prog w) s A env h es (fun vs _ => IntsAre vs ns)) : EvL (model prog w) s A env h (.Constant (.int i) k p :: es) (fun vs _ => IntsAre vs (i :: ns)) := EvL.consI Ev.int y (star_int es)
theorem EvL.cn {i : Int} {k : Nat} {p p' : Pos} {es : List Expr} {ns : List Int} (y : EvL (model prog w) s A env h es (fun vs _ => IntsAre vs ns)) : EvL (model prog w) s A env h (.UnaryOp .USub (.Constant (.int i) k p) p' :: es) (fun vs _ => IntsAre vs (-i :: ns)) := EvL.consI (Ev.neg Ev.int) y (star_un es)
theorem EvL.dfl {k0 : Nat} {p0 : Pos} {k1 : Nat} {p1 : Pos} {k2 : Nat} {p2 : Pos} {k3 : Nat} {p3 : Pos} {k4 : Nat} {p4 : Pos} {k5 : Nat} {p5 : Pos} {k6 : Nat} {p6 : Pos} {k7 : Nat} {p7 : Pos} {k8 : Nat} {p8 : Pos} {k9 : Nat} {p9 : Pos} {k10 : Nat} {p10 : Pos} {k11 : Nat} {p11 : Pos} {p' : Pos} : EvL (model prog w) s A env h [.Constant (.int 6) k0 p0, .Constant (.int 17) k1 p1, .Constant (.int 0) k2 p2, .Constant (.int 250) k3 p3, .Constant (.int 3) k4 p4, .Constant (.int 0) k5 p5, .Constant (.int 1) k6 p6, .Constant (.int 25) k7 p7, .UnaryOp .USub (.Constant (.int 4) k8 p8) p', .Constant (.int 198) k9 p9, .Constant (.int 254) k10 p10, .Constant (.int 100) k11 p11] (fun vs _ => IntsAre vs [6, 17, 0, 250, 3, 0, 1, 25, -4, 198, 254, 100]) := by
  refine EvL.ci ?_
  refine EvL.ci ?_
  refine EvL.ci ?_
  refine EvL.ci ?_
  refine EvL.ci ?_
  refine EvL.ci ?_
  refine EvL.ci ?_
  refine EvL.ci ?_
  refine EvL.cn ?_
  refine EvL.ci ?_
  refine EvL.ci ?_
  refine EvL.ci ?_
  exact EvL.nilI
theorem Ev.litI {es : List Expr} {ns : List Int} {pos : Pos} (y : EvL (model prog w) s A env h es (fun vs _ => IntsAre vs ns)) (hn : ns.length ≤ 1000) : Ev (model prog w) s A env h (.List es pos) (IsIL ns) := (ints2 y (fun _ _ e => e) hn).mono fun _ _ _ e => e.is
theorem Ev.lsliceI {value : Expr} {lower upper : Option Expr} {p pos : Pos} {ns : List Int} {lo hi : Option Int} (y : Ev (model prog w) s A env h value (IsIL ns)) (zl : EvO (model prog w) s A env h lower lo) (zu : EvO (model prog w) s A env h upper hi) (hsz : ns.length ≤ 1000) :
    Ev (model prog w) s A env h (.Subscript value (.Slice lower upper none p) pos) (IsIL (pickNums ns lo hi none)) := (Ev.lslice y zl zu hsz).mono fun _ _ _ e => e.is
theorem lawA {pm c doc : Value} {a f : Addr} {sc : List Int} {Q : Flow → Heap → Prop} (D : Md fa la ea lg ex mg mb h₀) (R : Room A 4) (hb0 : ∀ b o, h₀.get? b = some o → B b = some o)
    (F : Fra B L [("script", .ref a)] [(L + 1, cellO none), (L + 2, cellO none), (L + 3, cellO none), (L + 4, cellO none), (L + 5, cellO none), (L + 6, cellO none)] h) (hs : LAh h₀ a sc) (h63 : sc.length ≤ 63)
    (q : ∀ B' h' an ao ae at' t, StA h₀ L an ao ae at' (nums sc) B' → Fra B' L [("size", .int (sz (nums sc) : Nat) t), ("exponents", .ref ae)] [(L + 4, cellO none), (L + 5, cellO none), (L + 6, cellO none)] h' →
      wpH (model prog w) s A (execs ((fnAt 17).2.2.1.drop 7) (lenv pm c doc L f)) Q X h') :
    wpH (model prog w) s A (execs (fnAt 17).2.2.1 (lenv pm c doc L f)) Q X h := by
  have k0 : Keep h₀ h := fun b o e => F.keep b o (hb0 b o e)
  have D₁ := D.keeps k0
  have hl12 := nums_len sc
  have hsr := sz_rg (nums sc)
  have hsc := hs.keeps k0
  have hql : wpH (model prog w) s A (execs ((fnAt 17).2.2.1.drop 0) (lenv pm c doc L f)) Q X h → wpH (model prog w) s A (execs (fnAt 17).2.2.1 (lenv pm c doc L f)) Q X h := fun x => x
  apply hql
  conv in (fnAt 17).2.2.1.drop 0 => whnf
  refine wpH_execs_cons ?_
  refine asgCellL F (ns := nums sc) ?_ ?_
  · rw [show nums sc = pickNums sc none (some 12) none ++ pickNums dflt (some sc.length) none none by unfold nums; rfl]
    refine Ev.ladd ?_ ?_ ?_ ?_
    · refine Ev.lsliceI ?_ ?_ ?_ ?_
      · exact Ev.isH (Ev.loc F) hsc
      · exact EvO.none
      · exact EvO.some Ev.int
      · omega
    · refine Ev.lsliceI ?_ ?_ ?_ ?_
      · refine Ev.litI ?_ ?_
        · exact EvL.dfl
        · decide
      · exact EvO.some (Ev.lenL (Ev.len' D₁) (Ev.isH (Ev.loc F) hsc) (by omega))
      · exact EvO.none
      · decide
    · have := length_pickNums_le (h := hsc.choose_spec.2) none (some 12) none; omega
    · unfold nums at hl12; rw [List.length_append] at hl12; omega
  intro an vn mn h₁ hin F₁
  obtain ⟨B₁, hb1, hk1, F₁⟩ := frz hb0 (Kn := []) (fun _ hp => (nomatch hp)) F₁
  obtain ⟨B₁, hb1, hk1, F₁⟩ := frz hb1 hk1 F₁
  have kn1 : LAh h₁ an (nums sc) := LA.at (LA.li (hk1 (an, liO vn mn) (by simp)) hin) F₁.keep
  have cn1 := F₁.keep _ _ (hk1 (L + 1, cellO (some (.ref an))) (by simp))
  generalize nums sc = ns at *
  refine wpH_execs_cons ?_
  refine asgI F₁ (i := ((sz ns : Nat) : Int)) ?_ ?_
  · rw [sz_eq]
    refine Ev.add ?_ Ev.int
    refine Ev.mod ?_ Ev.int (by decide)
    exact Ev.itemL (Ev.isH (Ev.cellH cn1) kn1) Ev.int (by decide) (by omega) (by omega)
  intro ts h₂ F₂
  have k2 : Keep h₀ h₂ := fun b o e => F₂.keep b o (hb1 b o e)
  have D₂ := D.keeps k2
  have kn2 : LAh h₂ an ns := LA.at (LA.li (hk1 (an, liO vn mn) (by simp)) hin) F₂.keep
  have cn2 := F₂.keep _ _ (hk1 (L + 1, cellO (some (.ref an))) (by simp))
  have hso := sliceO_len hl12
  refine wpH_execs_cons ?_
  refine asgCellL F₂ (ns := nI (octs ns)) ?_ ?_
  · refine Ev.compL (src := sliceO ns) (V := IsIL (sliceO ns)) ?_ (fun _ _ _ e => e) _ (by omega) R.hd (by rfl) (by rfl) ?_
    · rw [show sliceO ns = pickNums ns (some 1) (some (1 + (sz ns : Nat))) none by unfold sliceO; rfl]
      refine Ev.lsliceI ?_ ?_ ?_ ?_
      · exact Ev.isH (Ev.cellH cn2) kn2
      · exact EvO.some Ev.int
      · exact EvO.some (Ev.add Ev.int (Ev.locI F₂))
      · omega
    · intro C i t B' h' hi hB F'
      have e : ((((i.fmod 256).toNat : Nat)) : Int) = i.fmod 256 := by have := fmod_range i (n := 256) (by omega); omega
      rw [e]
      exact Ev.mod (Ev.locI F') Ev.int (by decide)
  intro ao vo mo h₃ hio F₃
  obtain ⟨B₃, hb3, hk3, F₃⟩ := frz hb1 hk1 F₃
  obtain ⟨B₃, hb3, hk3, F₃⟩ := frz hb3 hk3 F₃
  have kn3 : LAh h₃ an ns := LA.at (LA.li (hk3 (an, liO vn mn) (by simp)) hin) F₃.keep
  have cn3 := F₃.keep _ _ (hk3 (L + 1, cellO (some (.ref an))) (by simp))
  refine wpH_execs_cons ?_
  refine asgL F₃ (ns := exps ns) ?_ ?_
  · rw [show exps ns = pickNums ns (some 5) none none by unfold exps; rfl]
    refine Ev.lslice ?_ ?_ ?_ ?_
    · exact Ev.isH (Ev.cellH cn3) kn3
    · exact EvO.some Ev.int
    · exact EvO.none
    · omega
  intro ae ve me h₄ hie F₄
  obtain ⟨B₄, hb4, hk4, F₄⟩ := frz hb3 hk3 F₄
  refine wpH_execs_cons ?_
  refine asgCellL F₄ (ns := []) (ints2 EvL.nilI (fun _ _ e => e) (by decide)) ?_
  intro at' vt mt h₅ hit F₅
  obtain rfl : vt = [] := by cases hit; rfl
  obtain ⟨B₅, hb5, hk5, F₅⟩ := frz hb4 hk4 F₅
  refine wpH_execs_cons ?_
  refine asgI F₅ Ev.int ?_
  intro tp h₆ F₆
  have k6 : Keep h₀ h₆ := fun b o e => F₆.keep b o (hb5 b o e)
  have D₆ := D.keeps k6
  refine wpH_execs_cons ?_
  refine for_range (n := 255) (a := 0) (b := 255) (S := List Value × Nat × Tok) (fun k σ => [("size", .int (sz ns : Nat) ts), ("exponents", .ref ae), ("power", .int (gexp k : Nat) σ.2.2)]) (fun _ σ => (at', liO σ.1 σ.2.1) :: [(L + 4, cellO none), (L + 5, cellO none), (L + 6, cellO none)])
    (fun k σ => IntsAre σ.1 (nI (tabN k))) ([], mt, tp) .nil (F₆.weak ⟨rfl, rfl, rfl, trivial⟩) R.hd ?_ (by decide) (by decide) (by decide) ?_ ?_
  · exact Ev.range1 (Ev.rg D₆) Ev.int
  · rintro k ⟨vt, mt, tp⟩ B' ti h₇ hk hP hB F₇
    have ct7 := F₇.keep _ _ (hB _ _ (hk5 (L + 3, cellO (some (.ref at'))) (by simp)))
    have hlt : vt.length ≤ 1000 := by rw [hP.length, nI_len]; simp [tabN]; omega
    refine wpH_execs_cons ?_
    refine appendL F₇ (i := ((gexp k : Nat) : Int)) ?_ ?_ hlt ?_
    · exact Ev.cellH ct7
    · exact Ev.locI F₇
    intro t' m' h₈ F₈
    refine wpH_execs_cons ?_
    refine asgI F₈ (i := ((gexp (k + 1) : Nat) : Int)) ?_ ?_
    · rw [show gexp (k + 1) = xt (gexp k) from rfl, ← xt_int (gexp k) (gexp_lt k)]
      refine Ev.xor ?_ ?_
      · exact Ev.mul (Ev.locI F₈) Ev.int (.of_right (bits_small (by decide) (by decide)))
      · refine Ev.mul ?_ Ev.int (.of_right (bits_small (by decide) (by decide)))
        exact Ev.fdiv (Ev.locI F₈) Ev.int (by decide) (noPy_small (by decide))
    intro t'' h₉ F₉
    refine wpH_execs_nil ⟨rfl, (vt ++ [.int (gexp k : Nat) t'], m', t''), ?_, ?_⟩
    · rw [tabN_succ]
      exact ints_snoc hP _ _
    · exact F₉.weak (l' := [("size", .int (sz ns : Nat) ts), ("exponents", .ref ae), ("power", .int (gexp (k + 1) : Nat) t'')]) ⟨rfl, rfl, rfl, trivial⟩
  · rintro ⟨vt, mt, tp⟩ h₇ hP F₇
    obtain ⟨B₇, hb7, hk7, F₇⟩ := frz hb5 hk5 F₇
    have S : StA h₀ L an ao ae at' ns B₇ := ⟨hb7, LA.li (hk7 (an, liO vn mn) (by simp)) hin, hk7 (L + 1, cellO (some (.ref an))) (by simp), LA.li (hk7 (ao, liO vo mo) (by simp)) hio, hk7 (L + 2, cellO (some (.ref ao))) (by simp),
      LA.li (hk7 (ae, liO ve me) (by simp)) hie, LA.li (hk7 (at', liO vt mt) (by simp)) hP, hk7 (L + 3, cellO (some (.ref at'))) (by simp)⟩
    exact q B₇ h₇ an ao ae at' ts S (F₇.weak ⟨rfl, rfl, trivial⟩)
end
end Mine
namespace Mine
open PySem PySem.W PyProof.Rows PySem.Calls
open Sem (wp)
def plcs (ns : List Int) : List Nat := (exps ns).map fun e => gexp (e.fmod 255).toNat
def vals (ns : List Int) : List Nat := (exps ns).map fun e => lawv (octs ns) e (octs ns).length
theorem plcs8 (ns : List Int) : All8 (plcs ns) := fun c hc => by obtain ⟨e, _, rfl⟩ := List.mem_map.mp hc; exact gexp_lt _
theorem nI_map (ps : List Nat) (g : Nat → Nat) : (nI ps).map (fun i => g i.toNat) = ps.map g := by unfold nI; rw [List.map_map]; rfl
theorem vals_eq (ns : List Int) : (nI (plcs ns)).map (fun i => peval (octs ns) i.toNat) = vals ns := by
  rw [nI_map (plcs ns) (peval (octs ns))]
  unfold plcs vals
  rw [List.map_map]
  exact List.map_congr_left fun e _ => (lawv_peval (octs8 ns) e).symm
theorem mem_nI {i : Int} {ps : List Nat} (h : i ∈ nI ps) : ∃ p ∈ ps, i = ((p : Nat) : Int) := by
  obtain ⟨p, hp, e⟩ := List.mem_map.mp h
  exact ⟨p, hp, e.symm⟩
structure StB (h₀ : Heap) (L an ao ae at' ap av : Addr) (ns : List Int) (B : Addr → Option Obj) : Prop where
  a : StA h₀ L an ao ae at' ns B
  p : LA B ap (nI (plcs ns))
  cp : B (L + 4) = some (cellO (some (.ref ap)))
  v : LA B av (nI (vals ns))
  cv : B (L + 5) = some (cellO (some (.ref av)))
theorem StB.mono {h₀ : Heap} {L an ao ae at' ap av : Addr} {ns : List Int} {B B' : Addr → Option Obj} (S : StB h₀ L an ao ae at' ap av ns B) (k : ∀ b o, B b = some o → B' b = some o) : StB h₀ L an ao ae at' ap av ns B' :=
  ⟨S.a.mono k, S.p.mono k, k _ _ S.cp, S.v.mono k, k _ _ S.cv⟩
section
variable {prog : Program} {w : World} {s : Shared} {A : Around} {h h₀ : Heap} {B : Addr → Option Obj} {L : Addr} {X : Value → Heap → Prop} {fa : Nat → Addr} {la ea : Addr} {lg ex : Array UInt8} {mg mb : Str → Option Value} {env : Env}
theorem Ev.compLI {elt iter : Expr} {x : Str} {px : Pos} {scope : Scope} {cl : List (Str × Addr)} {pos : Pos} {src : List Int} {V : Value → Heap → Prop}
    (y : Ev (model prog w) s A env h iter V) (hV : ∀ v h₁, Keep h h₁ → V v h₁ → IsIL src v h₁) (g : Int → Nat) (hn : src.length ≤ 1000) (hh : A.handled = none)
    (hclos : closureFor scope env = pure cl) (hx : scope.names.lookup x = some .local)
    (el : ∀ C i t B' h', i ∈ src → (∀ b o, h.get? b = some o → B' b = some o) → Fra B' C [(x, .int i t)] [] h' → Ev (model prog w) s A (compEnvC scope cl C env) h' elt (IsI (g i : Nat)))
    (hs : ∀ x, foldedSetIterable iter env x = pure x := by intro _; rfl) (hcell : ∀ y ∈ scope.names, y.2 ≠ .cell := by decide) (hkind : scope.kind = .function := by rfl) (hnames : ∀ y ∈ scope.names, y.2 = .local → scope.names.lookup y.1 = some .local := by decide) :
    Ev (model prog w) s A env h (.ListComp elt [⟨.Name x px, iter, [], 0⟩] scope pos) (IsIL (nI (src.map g))) := (Ev.compL y hV g hn hh hclos hx el hs hcell hkind hnames).mono fun _ _ _ e => e.is
theorem Ev.fn3 {i : Nat} {f : Str} {p pos : Pos} {a b c : Expr} {U W Z V : Value → Heap → Prop} (D : Md fa la ea lg ex mg mb h) (hi : i ∈ defIx) (hf : (fnAt i).1 = f) (u : Ev (model prog w) s A env h a U) (v : Ev (model prog w) s A env h b W) (z : Ev (model prog w) s A env h c Z)
    (hc : ∀ x y r h₁, Keep h h₁ → U x h₁ → W y h₁ → Z r h₁ → Con (model prog w) s A (fa i) [x, y, r] h₁ V)
    (he : starEach [a, b, c] env = (false, eval a env) :: starEach [b, c] env := by rfl) (he' : starEach [b, c] env = (false, eval b env) :: starEach [c] env := by rfl) (he'' : starEach [c] env = (false, eval c env) :: starEach [] env := by rfl)
    (hln : ∀ pos, (backTo pos (starEach [a, b, c] env)).length = 3 := by intro _; rfl) (hne : ∀ pos, (backTo pos (starEach [a, b, c] env)).all (fun x => !x.1) = true := by intro _; rfl)
    (hg : env.globals = mainGlobals := by rfl) (hk : env.scope.kind = .function := by rfl) (hl : env.kindOf f = some .globalImplicit := by rfl) (hd : (f == ("__debug__" : Str)) = false := by decide) : Ev (model prog w) s A env h (.Call (.Name f p) [a, b, c] [] pos) V := by
  subst hf
  obtain ⟨o, dV, pm', c', doc', f1, f2, f3, f4⟩ := (D.fn i hi).2.at'
  refine Ev.fn (Ev.glob D.gl (D.fn i hi).1 hg hk hl hd) f1 f2 (EvL.cons u (EvL.cons v (EvL.cons z EvL.nil he'') he') he) (fun vs h₄ k₄ hvs => ?_) (by simp) hln hne
  obtain ⟨v, r, rfl, hu, v', r', rfl, hw, v'', r'', rfl, hz, rfl⟩ := hvs
  exact hc v v' v'' h₄ k₄ hu hw hz
theorem lawB {pm c doc : Value} {f an ao ae at' : Addr} {ns : List Int} {t : Tok} {Q : Flow → Heap → Prop} (D : Md fa la ea lg ex mg mb h₀) (R : Room A 4) (hl12 : ns.length = 12) (S : StA h₀ L an ao ae at' ns B)
    (F : Fra B L [("size", .int (sz ns : Nat) t), ("exponents", .ref ae)] [(L + 4, cellO none), (L + 5, cellO none), (L + 6, cellO none)] h)
    (q : ∀ B' h' ap av, StB h₀ L an ao ae at' ap av ns B' → Fra B' L [("size", .int (sz ns : Nat) t)] [(L + 6, cellO none)] h' →
      wpH (model prog w) s A (execs ((fnAt 17).2.2.1.drop 11) (lenv pm c doc L f)) Q X h') :
    wpH (model prog w) s A (execs ((fnAt 17).2.2.1.drop 7) (lenv pm c doc L f)) Q X h := by
  have hel := exps_len hl12
  have hol := octs_len hl12
  have hsr := sz_rg ns
  have hu : A.units + 64 < 9900 := by have := R.u; omega
  conv in (fnAt 17).2.2.1.drop 7 => whnf
  refine wpH_execs_cons ?_
  refine asgCellL F (ns := nI (plcs ns)) ?_ ?_
  · refine Ev.compL (src := exps ns) (V := IsIL (exps ns)) ?_ (fun _ _ _ e => e) _ (by omega) R.hd (by rfl) (by rfl) ?_
    · exact Ev.isH (Ev.loc F) (S.e.at F.keep)
    · intro C i t B' h' hi hB F'
      have kB : Keep h h' := fun b o e => F'.keep b o (hB b o e)
      refine Ev.fn2 (i := 7) (D.keeps fun b o e => kB _ _ (F.keep _ _ (S.base b o e))) (by decide) rfl Ev.int (Ev.locI F') ?_
      intro x y g kg hx hy
      obtain ⟨tx, rfl⟩ := hx
      obtain ⟨ty, rfl⟩ := hy
      exact con_pow (D.keeps fun b o e => kg _ _ (kB _ _ (F.keep _ _ (S.base b o e)))) (R.le (by decide))
  intro ap vp mp h₁ hip F₁
  obtain ⟨B₁, hB1, c1, F₁⟩ := frz1 F₁
  obtain ⟨B₂, hB2, c2, F₂⟩ := frz1 F₁
  have S₂ := S.mono (B' := B₂) fun b o e => hB2 _ _ (hB1 _ _ e)
  have cp2 := hB2 _ _ c1
  have pl2 : LA B₂ ap (nI (plcs ns)) := LA.li c2 hip
  refine wpH_execs_cons ?_
  have ct : h₁.get? (L + 3) = some (cellO (some (.ref at'))) := F₂.keep _ _ S₂.ct
  refine iff (b := !decide (nI (plcs ns) = nI (plcs ns))) ?_ (fun e => absurd e (by simp)) (fun _ h₂ k₂ => wpH_execs_nil ?_)
  · refine EvT.neLs ?_ ?_ hu
    · exact Ev.isH (Ev.cellH (F₂.keep _ _ cp2)) (pl2.at F₂.keep)
    · refine Ev.compLI (src := exps ns) (V := IsIL (exps ns)) ?_ (fun _ _ _ e => e) _ (by omega) R.hd (by rfl) (by rfl) ?_
      · exact Ev.isH (Ev.loc F₂) (S₂.e.at F₂.keep)
      · intro C i t B' h' hi hB F'
        have kB : Keep h₁ h' := fun b o e => F'.keep b o (hB b o e)
        have r := fmod_range i (n := 255) (by omega)
        have tl : tabL.length = 255 := by simp [tabL]
        have e : ((gexp (i.fmod 255).toNat : Nat) : Int) = (nI tabL).getD (i.fmod 255).toNat 0 := by rw [nI_get, tabL_get (by omega)]
        rw [e]
        refine Ev.itemL ?_ ?_ r.1 (by rw [nI_len, tl]; omega) (by rw [nI_len, tl]; decide)
        · exact Ev.isH (Ev.cellH (kB _ _ ct)) ((S₂.t.at F₂.keep).keeps kB)
        · exact Ev.mod (Ev.locI F') Ev.int (by decide)
  have F₃ := F₂.keeps k₂
  refine wpH_execs_cons ?_
  refine asgCellL F₃ (ns := nI (vals ns)) ?_ ?_
  · refine Ev.compL (src := exps ns) (V := IsIL (exps ns)) ?_ (fun _ _ _ e => e) _ (by omega) R.hd (by rfl) (by rfl) ?_
    · exact Ev.isH (Ev.loc F₃) (S₂.e.at F₃.keep)
    · intro C i t B' h' hi hB F'
      have kB : Keep h₂ h' := fun b o e => F'.keep b o (hB b o e)
      have ko : LAh h' ao (nI (octs ns)) := (S₂.o.at F₃.keep).keeps kB
      have kt : LAh h' at' (nI tabL) := (S₂.t.at F₃.keep).keeps kB
      refine Ev.fn3 (i := 15) (D.keeps fun b o e => kB _ _ (F₃.keep _ _ (S₂.base b o e))) (by decide) rfl (Ev.cellH (kB _ _ (F₃.keep _ _ S₂.co))) (Ev.locI F') (Ev.cellH (kB _ _ (F₃.keep _ _ S₂.ct))) ?_
      intro x y r g kg hx hy hr
      obtain rfl : x = .ref ao := hx
      obtain ⟨ty, rfl⟩ := hy
      obtain rfl : r = .ref at' := hr
      obtain ⟨vs, i1, i2⟩ := ko.keeps kg
      obtain ⟨us, j1, j2⟩ := kt.keeps kg
      exact con_value (D.keeps fun b o e => kg _ _ (kB _ _ (F₃.keep _ _ (S₂.base b o e)))) (R.le (by decide)) i1 i2 j1 j2 (by omega) (octs8 ns)
  intro av vv mv h₄ hiv F₄
  obtain ⟨B₃, hB3, c3, F₄⟩ := frz1 F₄
  obtain ⟨B₄, hB4, c4, F₅⟩ := frz1 F₄
  have S₅ : StB h₀ L an ao ae at' ap av ns B₄ := ⟨S₂.mono fun b o e => hB4 _ _ (hB3 _ _ e), pl2.mono fun b o e => hB4 _ _ (hB3 _ _ e), hB4 _ _ (hB3 _ _ cp2), LA.li c4 hiv, hB4 _ _ c3⟩
  refine wpH_execs_cons ?_
  refine iff (b := !decide (nI ((nI (plcs ns)).map fun i => peval (octs ns) i.toNat) = nI (vals ns))) ?_ (fun e => absurd e (by rw [vals_eq]; simp)) (fun _ h₆ k₆ => wpH_execs_nil ?_)
  · refine EvT.neLs ?_ ?_ hu
    · refine Ev.compLI (src := nI (plcs ns)) (V := IsIL (nI (plcs ns))) ?_ (fun _ _ _ e => e) _ (by rw [nI_len]; unfold plcs; rw [List.length_map]; omega) R.hd (by rfl) (by rfl) ?_
      · exact Ev.isH (Ev.cellH (F₅.keep _ _ S₅.cp)) (S₅.p.at F₅.keep)
      · intro C i t B' h' hi hB F'
        obtain ⟨p, hp, rfl⟩ := mem_nI hi
        have hp8 := plcs8 ns p hp
        have kB : Keep h₄ h' := fun b o e => F'.keep b o (hB b o e)
        have D' := D.keeps fun b o e => kB _ _ (F₅.keep _ _ (S₅.a.base b o e))
        have hbs : (byteArr (nI (octs ns))).size = sz ns := by rw [byteArr_size, nI_len, hol]
        refine Ev.fn2 (i := 12) (U := IsB (byteArr (nI (octs ns)))) D' (by decide) rfl ?_ (Ev.locI F') ?_
        · refine Ev.mono (V := NewB h' (byteArr (nI (octs ns)))) ?_ ?_
          · refine Ev.baL (Ev.bar D') ?_ ?_ (by rw [nI_len, hol]; omega) R.g
            · exact Ev.isH (Ev.cellH (kB _ _ (F₅.keep _ _ S₅.a.co))) ((S₅.a.o.at F₅.keep).keeps kB)
            · intro n hn
              obtain ⟨m, hm, rfl⟩ := mem_nI hn
              have := octs8 ns m hm
              omega
          · rintro v g kg ⟨x, e1, _, e3⟩
            exact ⟨x, e1, e3⟩
        · intro x y g kg hx hy
          obtain ⟨xa, rfl, hxa⟩ := hx
          obtain ⟨ty, rfl⟩ := hy
          have hc := con_eval (prog := prog) (w := w) (s := s) (t := ty) (D'.keeps kg) (R.le (by decide)) hxa (by omega) (by omega) hp8
          have hAL : AL (byteArr (nI (octs ns))) (octs ns) := ⟨by rw [byteArr_size, nI_len], fun m _ => bAt_byteArr _ (octs8 ns) m⟩
          rw [hor_peval hAL (by omega)] at hc
          exact hc
    · exact Ev.isH (Ev.cellH (F₅.keep _ _ S₅.cv)) (S₅.v.at F₅.keep)
  exact q B₄ h₆ ap av S₅ ((F₅.keeps k₆).weak ⟨rfl, trivial⟩)
end
end Mine
namespace Mine
open PySem PySem.W PyProof.Rows PySem.Calls
open Sem (wp)
def tkI (ns : List Int) (k : Nat) : Int := (ns.getD 1 0 + (k : Int) * (((ns.getD 0 0).fdiv 4).fmod 6 + 1)).fmod 7
def tkn (ns : List Int) : List Nat := (List.range (sz ns)).map fun k => (tkI ns k).toNat
theorem tkI_rg (ns : List Int) (k : Nat) : 0 ≤ tkI ns k ∧ tkI ns k < 7 := fmod_range _ (by omega)
theorem tkn_lt (ns : List Int) : ∀ k ∈ tkn ns, k < 7 := fun k hk => by
  obtain ⟨j, _, rfl⟩ := List.mem_map.mp hk
  have := tkI_rg ns j
  omega
def chs (ns : List Int) : List Nat := (tkn ns).map fun k => (plcs ns).getD k 0
def gvn (ns : List Int) : List Nat := (tkn ns).map fun k => (vals ns).getD k 0
theorem tkn_len (ns : List Int) : (tkn ns).length = sz ns := by simp [tkn]
theorem chs_len (ns : List Int) : (chs ns).length = sz ns := by simp [chs, tkn_len]
theorem gvn_len (ns : List Int) : (gvn ns).length = sz ns := by simp [gvn, tkn_len]
theorem getD_map (l : List Nat) (g : Nat → Nat) {i : Nat} (h : i < l.length) : (l.map g).getD i 0 = g (l.getD i 0) := by simp [List.getD_eq_getElem?_getD, h]
theorem setting {ns : List Int} (h : ns.length = 12) : Setting (octs ns) (chs ns) (gvn ns) := by
  refine ⟨octs8 ns, fun c hc => ?_, by rw [chs_len, octs_len h], by rw [chs_len, gvn_len], fun i hi => ?_⟩
  · obtain ⟨k, _, rfl⟩ := List.mem_map.mp hc
    exact getD_lt (plcs8 ns) k
  · rw [chs_len] at hi
    have hk : (tkn ns).getD i 0 < 7 := tkn_lt ns _ (by simp [List.getD_eq_getElem?_getD, tkn_len, hi])
    unfold gvn chs
    rw [getD_map _ _ (by rw [tkn_len]; exact hi), getD_map _ _ (by rw [tkn_len]; exact hi)]
    have hpl : (plcs ns).length = 7 := by unfold plcs; rw [List.length_map, exps_len h]
    have : vals ns = (plcs ns).map (peval (octs ns)) := by rw [← vals_eq, nI_map (plcs ns) (peval (octs ns))]
    rw [this, getD_map _ _ (by omega)]
structure StC (h₀ : Heap) (L an ao ae at' ap av ac : Addr) (ns : List Int) (B : Addr → Option Obj) : Prop where
  b : StB h₀ L an ao ae at' ap av ns B
  c : LA B ac (nI (chs ns))
theorem StC.mono {h₀ : Heap} {L an ao ae at' ap av ac : Addr} {ns : List Int} {B B' : Addr → Option Obj} (S : StC h₀ L an ao ae at' ap av ac ns B) (k : ∀ b o, B b = some o → B' b = some o) : StC h₀ L an ao ae at' ap av ac ns B' :=
  ⟨S.b.mono k, S.c.mono k⟩
section
variable {prog : Program} {w : World} {s : Shared} {A : Around} {h h₀ : Heap} {B : Addr → Option Obj} {L : Addr} {X : Value → Heap → Prop} {fa : Nat → Addr} {la ea : Addr} {lg ex : Array UInt8} {mg mb : Str → Option Value} {env : Env} {l : List (Str × Value)} {N : List (Addr × Obj)}
theorem asgCellX {x : Str} {p pos : Pos} {e : Expr} {P : List Int → Prop} {c : Addr} {v₀ : Option Value} {Q : Flow → Heap → Prop} (F : Fra B L l ((c, cellO v₀) :: N) h) (y : Ev (model prog w) s A env h e (fun v h' => ∃ ns, P ns ∧ NewL h ns v h'))
    (q : ∀ ns a vs m h', P ns → IntsAre vs ns → Fra B L l ((c, cellO (some (.ref a))) :: (a, liO vs m) :: N) h' → Q .next h') (hs : swapsWith e (some (.Name x p)) pos.line env = pure false := by rfl)
    (hc : env.cells.lookup x = some c := by rfl) (hl : env.kindOf x = some .cell := by rfl) (hk : env.scope.kind = .function := by rfl) : wpH (model prog w) s A (exec (.Assign [.Name x p] e pos) env) Q X h :=
  wpH_Assign_Name (y.wp fun v h₁ k hv => by
    obtain ⟨ns, hP, a, vs, m, rfl, hn, hg, hi⟩ := hv _ Keep.rfl
    have F₁ := F.fresh k hn hg
    refine wpH_storeCell F₁ (.tail _ (.head _)) (fun h' _ F' => q ns a vs m h' hP hi ?_) hc hl hk
    have nd := F₁.nodup
    simp only [List.map_cons, List.nodup_cons, List.mem_cons, not_or] at nd
    have hne : a ≠ c := nd.1.1
    have e : updN c (cellO (some (.ref a))) ((a, liO vs m) :: (c, cellO v₀) :: N) = (a, liO vs m) :: (c, cellO (some (.ref a))) :: N := by simp [updN, hne]
    rw [e] at F'
    exact F'.perm (.swap ..)) hs
theorem Ev.srt {p : Pos} (D : Md fa la ea lg ex mg mb h) (hg : env.globals = mainGlobals := by rfl) (hb : env.builtins = builtinsNs := by rfl) (hk : env.scope.kind = .function := by rfl) (hl : env.kindOf "sorted" = some .globalImplicit := by rfl) : Ev (model prog w) s A env h (.Name "sorted" p) (Is (.builtin "sorted")) :=
  Ev.blt D.gl (D.fr _ (by decide)) (by decide +kernel) hg hb hk hl
theorem lawC {pm c doc : Value} {f an ao ae at' ap av : Addr} {ns : List Int} {t : Tok} {Q : Flow → Heap → Prop} (D : Md fa la ea lg ex mg mb h₀) (R : Room A 4) (hl12 : ns.length = 12) (S : StB h₀ L an ao ae at' ap av ns B)
    (F : Fra B L [("size", .int (sz ns : Nat) t)] [(L + 6, cellO none)] h)
    (q : ∀ B' h' ac ag vg mg', StC h₀ L an ao ae at' ap av ac ns B' → IntsAre vg (nI (gvn ns)) → Fra B' L [("size", .int (sz ns : Nat) t), ("chosen", .ref ac), ("given", .ref ag), ("twice", .bool (!decide (chs ns).Nodup))] [(ag, liO vg mg')] h' →
      wpH (model prog w) s A (execs ((fnAt 17).2.2.1.drop 16) (lenv pm c doc L f)) Q X h') :
    wpH (model prog w) s A (execs ((fnAt 17).2.2.1.drop 11) (lenv pm c doc L f)) Q X h := by
  have hsr := sz_rg ns
  have hu : A.units + 64 < 9900 := by have := R.u; omega
  have hpl : (plcs ns).length = 7 := by unfold plcs; rw [List.length_map, exps_len hl12]
  have hvl : (vals ns).length = 7 := by unfold vals; rw [List.length_map, exps_len hl12]
  have k0 : Keep h₀ h := fun b o e => F.keep _ _ (S.a.base b o e)
  conv in (fnAt 17).2.2.1.drop 11 => whnf
  refine wpH_execs_cons ?_
  refine asgComp (n := sz ns) (item := fun k v => ∃ t, v = .int ((0 : Int) + k) t) (V := IsR 0 (sz ns : Nat)) F ?_ (fun v h₁ k hv => walk_range hv (by omega) (by decide) (by omega) R.hd) (fun _ => true) (fun k => tkI ns k) (sz_of _ (by omega)) (by rfl) (by rfl) (fun C k v B' h' hk hi hB F' Q X q => tests_nil (q _ Keep.rfl)) ?_ ?_
  · exact Ev.range1 (Ev.rg (D.keeps k0)) (Ev.locI F)
  · intro C k v B' h' hk hp hi hB F'
    obtain ⟨tk, rfl⟩ := hi
    have kB : Keep h h' := fun b o e => F'.keep b o (hB b o e)
    have cn := kB _ _ (F.keep _ _ S.a.cn)
    have kn := (S.a.n.at F.keep).keeps kB
    have e : tkI ns k = (ns.getD 1 0 + ((0 : Int) + (k : Int)) * (((ns.getD 0 0).fdiv 4).fmod 6 + 1)).fmod 7 := by unfold tkI; rw [Int.zero_add]
    rw [e]
    refine Ev.mod ?_ Ev.int (by decide)
    refine Ev.add ?_ ?_
    · exact Ev.itemL (Ev.isH (Ev.cellH cn) kn) Ev.int (by decide) (by omega) (by omega)
    · refine Ev.mul (Ev.locI F') ?_ (.of_left (bits_small (by omega) (by omega)))
      refine Ev.add ?_ Ev.int
      refine Ev.mod ?_ Ev.int (by decide)
      refine Ev.fdiv ?_ Ev.int (by decide) (noPy_small (by decide))
      exact Ev.itemL (Ev.isH (Ev.cellH cn) kn) Ev.int (by decide) (by omega) (by omega)
  intro at2 vt mt h₁ hit F₁
  have htk : (List.range (sz ns)).map (fun k => tkI ns k) = nI (tkn ns) := by
    unfold nI tkn
    rw [List.map_map]
    refine List.map_congr_left fun k _ => ?_
    have := tkI_rg ns k
    show tkI ns k = (((tkI ns k).toNat : Nat) : Int)
    omega
  rw [accL_all, htk] at hit
  obtain ⟨B₁, hB1, c1, F₁⟩ := frz1 F₁
  have S₁ := S.mono hB1
  have lt1 : LA B₁ at2 (nI (tkn ns)) := LA.li c1 hit
  refine wpH_execs_cons ?_
  refine asgCompL (src := nI (tkn ns)) (V := IsIL (nI (tkn ns))) F₁ ?_ (fun _ _ _ e => e) (fun i => (plcs ns).getD i.toNat 0) (by rw [nI_len, tkn_len]; omega) R.hd (by rfl) (by rfl) ?_ ?_
  · exact Ev.isH (Ev.loc F₁) (lt1.at F₁.keep)
  · intro C i t B' h' hi hB F'
    obtain ⟨k, hk, rfl⟩ := mem_nI hi
    have hk7 := tkn_lt ns k hk
    have kB : Keep h₁ h' := fun b o e => F'.keep b o (hB b o e)
    rw [← nI_get]
    exact Ev.itemL (Ev.isH (Ev.cellH (kB _ _ (F₁.keep _ _ S₁.cp))) ((S₁.p.at F₁.keep).keeps kB)) (Ev.locI F') (by omega) (by rw [nI_len]; omega) (by rw [nI_len]; omega)
  intro ac vc mc h₂ hic F₂
  rw [nI_map (tkn ns) (fun k => (plcs ns).getD k 0)] at hic
  obtain ⟨B₂, hB2, c2, F₂⟩ := frz1 F₂
  have S₂ := S₁.mono hB2
  have lt2 := lt1.mono hB2
  have lc2 : LA B₂ ac (nI (chs ns)) := LA.li c2 hic
  refine wpH_execs_cons ?_
  refine asgCompL (src := nI (tkn ns)) (V := IsIL (nI (tkn ns))) F₂ ?_ (fun _ _ _ e => e) (fun i => (vals ns).getD i.toNat 0) (by rw [nI_len, tkn_len]; omega) R.hd (by rfl) (by rfl) ?_ ?_
  · exact Ev.isH (Ev.loc F₂) (lt2.at F₂.keep)
  · intro C i t B' h' hi hB F'
    obtain ⟨k, hk, rfl⟩ := mem_nI hi
    have hk7 := tkn_lt ns k hk
    have kB : Keep h₂ h' := fun b o e => F'.keep b o (hB b o e)
    rw [← nI_get]
    exact Ev.itemL (Ev.isH (Ev.cellH (kB _ _ (F₂.keep _ _ S₂.cv))) ((S₂.v.at F₂.keep).keeps kB)) (Ev.locI F') (by omega) (by rw [nI_len]; omega) (by rw [nI_len]; omega)
  intro ag vg mg' h₃ hig F₃
  rw [nI_map (tkn ns) (fun k => (vals ns).getD k 0)] at hig
  have F₃ := F₃.perm (N' := [(L + 6, cellO none), (ag, liO vg mg')]) (.swap ..)
  have k3 : Keep h₀ h₃ := fun b o e => F₃.keep _ _ (S₂.a.base b o e)
  refine wpH_execs_cons ?_
  refine asgCellX (P := fun so => so.Perm (nI (chs ns)) ∧ so.Pairwise (· ≤ ·)) F₃ ?_ ?_
  · refine Ev.mono (V := fun v h' => ∃ ns', ns'.Perm (nI (chs ns)) ∧ ns'.Pairwise (· ≤ ·) ∧ NewL h₃ ns' v h') ?_ ?_
    · refine Ev.sorted (ns := nI (chs ns)) ?_ ?_ (by rw [nI_len, chs_len]; omega)
      · exact Ev.srt (D.keeps k3)
      · exact Ev.isH (Ev.loc F₃) (lc2.at F₃.keep)
    · rintro v h' k ⟨so, a1, a2, a3⟩
      exact ⟨so, ⟨a1, a2⟩, a3⟩
  intro so ar vr mr h₄ hso hir F₄
  obtain ⟨B₃, hB3, c3, F₄⟩ := frz1 F₄
  obtain ⟨B₄, hB4, c4, F₄⟩ := frz1 F₄
  have hB34 : ∀ b o, B₂ b = some o → B₄ b = some o := fun b o e => hB4 _ _ (hB3 _ _ e)
  have S₄ : StC h₀ L an ao ae at' ap av ac ns B₄ := ⟨S₂.mono hB34, lc2.mono hB34⟩
  have lr : LA B₄ ar so := LA.li c4 hir
  have cr := hB4 _ _ c3
  have k4 : Keep h₀ h₄ := fun b o e => F₄.keep _ _ (S₄.b.a.base b o e)
  have hsl : so.length = sz ns := hso.1.length_eq.trans (by rw [nI_len, chs_len])
  refine wpH_execs_cons ?_
  refine asgV F₄ (v := .bool (!decide ((accL (fun j => so.getD (j + 1) 0 == so.getD j 0) (fun j => (1 : Int) + j) (sz ns - 1)) = []))) ?_ ?_
  · refine Ev.neLs ?_ ?_ hu
    · refine Ev.mono (V := NewL h₄ (accL (fun j => so.getD (j + 1) 0 == so.getD j 0) (fun j => (1 : Int) + j) (sz ns - 1))) ?_ ?_
      · refine Ev.comp (n := sz ns - 1) (item := fun k v => ∃ t, v = .int ((1 : Int) + k) t) (V := IsR 1 (sz ns : Nat)) ?_ (fun v h₁ k hv => walk_range hv (by omega) (by decide) (by omega) R.hd) _ _ (sz_of _ (by omega)) (by rfl) (by rfl) ?_ ?_
        · exact Ev.range2 (Ev.rg (D.keeps k4)) Ev.int (Ev.locI F₄)
        · intro C k v B' h' hk hi hB F' Q X q
          obtain ⟨tk, rfl⟩ := hi
          have kB : Keep h₄ h' := fun b o e => F'.keep b o (hB b o e)
          have e1 : so.getD (k + 1) 0 = so.getD ((1 : Int) + (k : Int)).toNat 0 := by congr 1; omega
          have e2 : so.getD k 0 = so.getD ((1 : Int) + (k : Int) - 1).toNat 0 := by congr 1; omega
          rw [e1, e2] at q
          refine tests_one (EvT.eq ?_ ?_) q
          · exact Ev.itemL (Ev.isH (Ev.cellH (kB _ _ (F₄.keep _ _ cr))) ((lr.at F₄.keep).keeps kB)) (Ev.locI F') (by omega) (by omega) (by omega)
          · exact Ev.itemL (Ev.isH (Ev.cellH (kB _ _ (F₄.keep _ _ cr))) ((lr.at F₄.keep).keeps kB)) (Ev.sub (Ev.locI F') Ev.int) (by omega) (by omega) (by omega)
        · intro C k v B' h' hk hp hi hB F'
          obtain ⟨tk, rfl⟩ := hi
          exact Ev.locI F'
      · exact fun _ _ _ e => e.is
    · exact Ev.litI EvL.nilI (by decide)
  intro h₅ F₅
  have htw : decide ((accL (fun j => so.getD (j + 1) 0 == so.getD j 0) (fun j => (1 : Int) + j) (sz ns - 1)) = []) = decide (chs ns).Nodup := by
    have := twice_iff (f := fun j => (1 : Int) + j) hso.1 hso.2
    rw [chs_len] at this
    simp only [decide_eq_decide]
    exact this
  rw [htw] at F₅
  exact q B₄ h₅ ac ag vg mg' S₄ hig (F₅.weak ⟨rfl, rfl, rfl, rfl, trivial⟩)
end
end Mine
namespace Mine
open PySem PySem.W PyProof.Rows PySem.Calls
open Sem (wp)
theorem ints_set {vs : List Value} {ns : List Int} (h : IntsAre vs ns) (k : Nat) (i : Int) (t : Tok) : IntsAre (vs.set k (.int i t)) (ns.set k i) := by
  induction h generalizing k with
  | nil => exact .nil
  | cons n t' hr ih =>
    cases k with
    | zero => exact .cons i t hr
    | succ k => exact .cons n t' (ih k)
theorem nI_set (gv : List Nat) (k x : Nat) : (nI gv).set k ((x : Nat) : Int) = nI (gv.set k x) := by unfold nI; rw [List.map_set]
theorem nI_append (a b : List Nat) : nI a ++ nI b = nI (a ++ b) := by unfold nI; rw [List.map_append]
theorem pick_take (ch : List Nat) {k : Nat} (h : k ≤ ch.length) : pickNums (nI ch) none (some (k : Int)) none = nI (ch.take k) := by
  rw [pick_eq]
  simp only [Option.elim, clipAt_nat, nI_len, List.drop_zero, Nat.sub_zero]
  rw [Nat.min_eq_left h]; unfold nI; rw [List.map_take]
theorem pick_drop (ch : List Nat) {k : Nat} (h : k + 1 ≤ ch.length) : pickNums (nI ch) (some ((k : Int) + 1)) none none = nI (ch.drop (k + 1)) := by
  rw [pick_eq]
  have e : clipAt (nI ch).length ((k : Int) + 1) = k + 1 := by
    have := clipAt_nat (nI ch).length (k + 1)
    rw [nI_len, Nat.min_eq_left h] at this
    rw [nI_len]; exact this
  simp only [Option.elim, e]
  rw [List.take_of_length_le (by simp)]
  unfold nI; rw [List.map_drop]
theorem any_nI (l : List Nat) (x : Nat) : (nI l).any (· == ((x : Nat) : Int)) = decide (x ∈ l) := by
  rw [Bool.eq_iff_iff]
  simp only [List.any_eq_true, beq_iff_eq, decide_eq_true_eq]
  constructor
  · rintro ⟨y, hy, e⟩
    obtain ⟨p, hp, rfl⟩ := mem_nI hy
    have : p = x := by omega
    exact this ▸ hp
  · intro h; exact ⟨x, List.mem_map.mpr ⟨x, h, rfl⟩, rfl⟩
section
variable {prog : Program} {w : World} {s : Shared} {A : Around} {h h₀ : Heap} {B : Addr → Option Obj} {L : Addr} {X : Value → Heap → Prop} {fa : Nat → Addr} {la ea : Addr} {lg ex : Array UInt8} {mg mb : Str → Option Value} {env : Env} {l : List (Str × Value)} {N : List (Addr × Obj)}
theorem asgThrough {base : Heap} {outer : List Env} {x : Str} {p p' pos' pos : Pos} {e₁ e₂ : Expr} {a c : Addr} {xs ys : List Nat} {Q : Flow → Heap → Prop} (D : Md fa la ea lg ex mg mb h) (R : Room A 4) (hfr : A.frames = some outer) (hb : base.StaysIn h) (hl : h.FunFrames base outer) (F : Fra B L l N h)
    (y : Ev (model prog w) s A env h e₁ (Is (.ref a))) (z : Ev (model prog w) s A env h e₂ (Is (.ref c))) (h1 : LAh h a (nI xs)) (h2 : LAh h c (nI ys)) (hn : ys.length = xs.length) (hx1 : xs.length ≤ 100) (hx8 : ∀ o ∈ xs, o < 256) (hy8 : ∀ o ∈ ys, o < 256)
    (q : (∀ i, i < xs.length → lagB xs i xs.length ≠ 0) → ∀ r g h', AL r (lagW xs ys xs.length) → Fra B L (setL x (.ref g) l) ((g, ba r) :: N) h' → Q .next h')
    (qx : (∃ i, i < xs.length ∧ lagB xs i xs.length = 0) → ∀ e h', XF base outer h e h' → X e h')
    (hs : swapsWith (.Call (.Name "_law_through" p') [e₁, e₂] [] pos') (some (.Name x p)) pos.line env = pure false := by rfl)
    (he : starEach [e₁, e₂] env = (false, eval e₁ env) :: starEach [e₂] env := by rfl) (he' : starEach [e₂] env = (false, eval e₂ env) :: starEach [] env := by rfl) (hln : ∀ pos, (backTo pos (starEach [e₁, e₂] env)).length = 2 := by intro _; rfl) (hne : ∀ pos, (backTo pos (starEach [e₁, e₂] env)).all (fun x => !x.1) = true := by intro _; rfl)
    (hg : env.globals = mainGlobals := by rfl) (hk : env.scope.kind = .function := by rfl) (hk' : env.kindOf "_law_through" = some .globalImplicit := by rfl) (hL : env.locals = L := by rfl) (hlx : env.kindOf x = some .local := by rfl) :
    wpH (model prog w) s A (exec (.Assign [.Name x p] (.Call (.Name "_law_through" p') [e₁, e₂] [] pos') pos) env) Q X h := by
  obtain ⟨o, dV, pm', c', doc', f1, f2, f3, f4⟩ := (D.fn 16 (by decide)).2.at'
  refine wpH_Assign_Name ?_ hs
  refine wpH_Call (Ev.glob D.gl (D.fn 16 (by decide)).1 hg hk hk' (by decide) h Keep.rfl _ _ fun v' h₂ k₂ hv => ?_)
  obtain rfl := hv _ Keep.rfl
  refine wpH_callWith_fn f2 (by rw [hln]; decide) (hne _) (EvL.cons y (EvL.cons z EvL.nil he') he _ h₂ k₂ _ _ fun vs h₃ k₃ hvs => ?_)
  obtain ⟨v1, r1, rfl, hv1, v2, r2, rfl, hv2, rfl⟩ := hvs _ Keep.rfl
  obtain rfl : v1 = .ref a := hv1
  obtain rfl : v2 = .ref c := hv2
  have k13 := k₂.trans k₃
  obtain ⟨vs, i1, i2⟩ := h1.keeps k13
  obtain ⟨us, j1, j2⟩ := h2.keeps k13
  refine ⟨k13 _ _ f1, through_H (D.keeps k13) R hfr (fun b o e => k13 _ _ (hb _ _ e)) (hl.of_keeps fun b o e _ => ⟨o, k13 _ _ e, rfl⟩) i1 i2 j1 j2 hn hx1 hx8 hy8 (fun hok r g h' kk hAL hg1 hg2 => ?_) fun hz e h' x => qx hz e h' (x.upto (.of_keeps k13))⟩
  exact wpH_store ((F.keeps k13).fresh kk hg1 hg2) (fun h'' _ F' => q hok r g h'' hAL F') hL hlx hk
theorem Ev.lst {p : Pos} (D : Md fa la ea lg ex mg mb h) (hg : env.globals = mainGlobals := by rfl) (hb : env.builtins = builtinsNs := by rfl) (hk : env.scope.kind = .function := by rfl) (hl : env.kindOf "list" = some .globalImplicit := by rfl) : Ev (model prog w) s A env h (.Name "list" p) (Is (.type "list")) :=
  Ev.blt D.gl (D.fr _ (by decide)) (by decide +kernel) hg hb hk hl
theorem Ev.zp {p : Pos} (D : Md fa la ea lg ex mg mb h) (hg : env.globals = mainGlobals := by rfl) (hb : env.builtins = builtinsNs := by rfl) (hk : env.scope.kind = .function := by rfl) (hl : env.kindOf "zip" = some .globalImplicit := by rfl) : Ev (model prog w) s A env h (.Name "zip" p) (Is (.type "zip")) :=
  Ev.blt D.gl (D.fr _ (by decide)) (by decide +kernel) hg hb hk hl
theorem AL_list {r : Array UInt8} {os : List Nat} (h : AL r os) : (List.range r.size).map (fun i => ((bAt r i : Nat) : Int)) = nI os := by
  apply List.ext_getElem
  · simp [nI, h.1]
  · intro i h1 h2
    have hi : i < os.length := by simpa [nI] using h2
    simp only [nI, List.getElem_map, List.getElem_range]
    rw [h.2 i hi, getD_of_lt hi]
/-- the value of a found polynomial -/
theorem Ev.pval {a b : Expr} {p pos : Pos} {g : Addr} {r : Array UInt8} {fs : List Nat} {x : Nat} (D : Md fa la ea lg ex mg mb h) (R : Room A 4) (y : Ev (model prog w) s A env h a (Is (.ref g))) (hr : h.get? g = some (ba r)) (hAL : AL r fs) (h0 : 0 < fs.length) (h1 : fs.length ≤ 100) (z : Ev (model prog w) s A env h b (IsI ((x : Nat) : Int))) (hx : x < 256)
    (he : starEach [a, b] env = (false, eval a env) :: starEach [b] env := by rfl) (he' : starEach [b] env = (false, eval b env) :: starEach [] env := by rfl) (hln : ∀ pos, (backTo pos (starEach [a, b] env)).length = 2 := by intro _; rfl) (hne : ∀ pos, (backTo pos (starEach [a, b] env)).all (fun x => !x.1) = true := by intro _; rfl)
    (hg : env.globals = mainGlobals := by rfl) (hk : env.scope.kind = .function := by rfl) (hl : env.kindOf "gf_poly_eval" = some .globalImplicit := by rfl) : Ev (model prog w) s A env h (.Call (.Name "gf_poly_eval" p) [a, b] [] pos) (IsI ((peval fs x : Nat) : Int)) := by
  refine Ev.fn2 (i := 12) D (by decide) rfl y z (fun u v h₁ k₁ hu hv => ?_) he he' hln hne hg hk hl
  obtain rfl : u = .ref g := hu
  obtain ⟨ty, rfl⟩ := hv
  have hc := con_eval (prog := prog) (w := w) (s := s) (t := ty) (D.keeps k₁) (R.le (by decide)) (k₁ _ _ hr) (by rw [hAL.1]; exact h0) (by rw [hAL.1]; omega) hx
  rw [hor_peval hAL h0] at hc
  exact hc
def kk (ns : List Int) : Nat := ((ns.getD 5 0).fmod (sz ns : Nat)).toNat
def dd (ns : List Int) : Nat := ((ns.getD 4 0).fmod 255 + 1).toNat
theorem kk_rg (ns : List Int) : ((kk ns : Nat) : Int) = (ns.getD 5 0).fmod (sz ns : Nat) ∧ kk ns < sz ns := by
  have := sz_rg ns
  have := fmod_range (ns.getD 5 0) (n := (sz ns : Nat)) (by omega)
  unfold kk; omega
theorem dd_rg (ns : List Int) : ((dd ns : Nat) : Int) = (ns.getD 4 0).fmod 255 + 1 ∧ dd ns ≠ 0 ∧ dd ns < 256 := by
  have := fmod_range (ns.getD 4 0) (n := 255) (by omega)
  unfold dd; omega
theorem lawD {pm c doc : Value} {f an ao ae at' ap av ac ag : Addr} {ns : List Int} {t : Tok} {vg : List Value} {mg' : Nat} {Q : Flow → Heap → Prop} (D : Md fa la ea lg ex mg mb h₀) (R : Room A 4) (hfr : A.frames = some [lenv pm c doc L f]) (hl12 : ns.length = 12) (S : StC h₀ L an ao ae at' ap av ac ns B) (hig : IntsAre vg (nI (gvn ns)))
    (F : Fra B L [("size", .int (sz ns : Nat) t), ("chosen", .ref ac), ("given", .ref ag), ("twice", .bool (!decide (chs ns).Nodup))] [(ag, liO vg mg')] h)
    (q : ∀ h', Keep h₀ h' → Q (.ret (.bool true)) h') :
    wpH (model prog w) s A (execs ((fnAt 17).2.2.1.drop 16) (lenv pm c doc L f)) Q X h := by
  have hsr := sz_rg ns
  have T := setting hl12
  have hcl := chs_len ns
  have hgl := gvn_len ns
  have hol := octs_len hl12
  have hpl : (plcs ns).length = 7 := by unfold plcs; rw [List.length_map, exps_len hl12]
  have hvl : (vals ns).length = 7 := by unfold vals; rw [List.length_map, exps_len hl12]
  have hu : A.units + 64 < 9900 := by have := R.u; omega
  have kp : ∀ {B' : Addr → Option Obj} {l' : List (Str × Value)} {N' : List (Addr × Obj)} {h' : Heap}, (∀ b o, B b = some o → B' b = some o) → Fra B' L l' N' h' → Keep h₀ h' := fun hB F' b o e => F'.keep _ _ (hB _ _ (S.b.a.base b o e))
  have hLb : h₀.get? L = none := by
    cases e : h₀.get? L with
    | none => rfl
    | some o => have := F.own; rw [S.b.a.base _ _ e] at this; cases this
  have hfun : ∀ {B' : Addr → Option Obj} {l' : List (Str × Value)} {N' : List (Addr × Obj)} {h' : Heap}, Fra B' L l' N' h' → h'.FunFrames h₀ [lenv pm c doc L f] := fun F' => by
    obtain ⟨m, hn, _⟩ := F'.ns
    exact .cons (by show (fnAt 17).2.2.2.kind ≠ .module; decide) rfl hn hLb trivial
  have k0 := kp (fun _ _ e => e) F
  have lg0 : LAh h ag (nI (gvn ns)) := ⟨vg, liO_isList (F.news _ (List.mem_cons_self ..)), hig⟩
  conv in (fnAt 17).2.2.1.drop 16 => whnf
  refine wpH_execs_cons ?_
  refine wpH_Try ?_
  refine wpH_execs_cons ?_
  refine asgThrough (base := h₀) (xs := chs ns) (ys := gvn ns) (D.keeps k0) R hfr k0 (hfun F) F (Ev.loc F) (Ev.loc F) (S.c.at F.keep) lg0 (by omega) (by omega) T.c8 T.g8 ?_ ?_
  rotate_left
  · rintro ⟨i, hi, hz⟩ e h' xf
    have hnd : ¬ (chs ns).Nodup := fun nd => nodup_iff_lagB.mp nd i hi hz
    refine catch_zde D F xf hfr rfl (v := .bool true) q (by show some (Value.bool (!decide (chs ns).Nodup)) = _; simp [hnd])
  intro hok r1 g1 h₁ hAL1 F₁
  have nd : (chs ns).Nodup := nodup_iff_lagB.mpr hok
  rw [T.back nd] at hAL1
  have hr1 : r1.size = sz ns := hAL1.1.trans hol
  refine wpH_execs_nil (wpH_execs_nil ?_)
  refine wpH_execs_cons ?_
  have k1 := kp (fun _ _ e => e) F₁
  have D₁ := D.keeps k1
  have hg1 := F₁.news _ (List.mem_cons_self ..)
  refine iff (b := (!decide (chs ns).Nodup) || !decide ((List.range r1.size).map (fun i => ((bAt r1 i : Nat) : Int)) = nI (octs ns))) ?_ (fun e => absurd e (by rw [AL_list hAL1]; simp [nd])) (fun _ h₂ k₂ => wpH_execs_nil ?_)
  · refine EvT.or ?_ (fun _ => ?_)
    · exact EvT.bool (Ev.loc F₁)
    · refine EvT.neLs ?_ ?_ hu
      · refine Ev.mono (V := NewL h₁ ((List.range r1.size).map (fun i => ((bAt r1 i : Nat) : Int)))) ?_ ?_
        · exact Ev.listB (Ev.lst D₁) (Ev.isB (Ev.loc F₁) hg1) (by omega) R.hd
        · exact fun _ _ _ e => e.is
      · exact Ev.isH (Ev.cellH (F₁.keep _ _ S.b.a.co)) (S.b.a.o.at F₁.keep)
  have F₂ := (F₁.keeps k₂).tail
  obtain ⟨hk1, hk2⟩ := kk_rg ns
  obtain ⟨hd1, hd2, hd3⟩ := dd_rg ns
  refine wpH_execs_cons ?_
  refine asgI F₂ (i := ((kk ns : Nat) : Int)) ?_ ?_
  · rw [hk1]
    refine Ev.mod ?_ ?_ (by omega)
    · exact Ev.itemL (Ev.isH (Ev.cellH (F₂.keep _ _ S.b.a.cn)) (S.b.a.n.at F₂.keep)) Ev.int (by decide) (by omega) (by omega)
    · exact Ev.locI F₂
  intro tk h₃ F₃
  have lg3 : LAh h₃ ag (nI (gvn ns)) := ⟨vg, liO_isList (F₃.news _ (List.mem_cons_self ..)), hig⟩
  have hvg : vg.length = sz ns := by rw [hig.length, nI_len, hgl]
  refine wpH_execs_cons ?_
  refine setL_item F₃ (x := (((gvn ns).getD (kk ns) 0 ^^^ dd ns : Nat) : Int)) (k := ((kk ns : Nat) : Int)) ?_ ?_ ?_ (by omega) (by omega) (by omega) ?_
  · refine Ev.xorN ?_ ?_
    · rw [← nI_get]
      exact Ev.itemL (k := ((kk ns : Nat) : Int)) (Ev.isH (Ev.loc F₃) lg3) (Ev.locI F₃) (by omega) (by rw [nI_len]; omega) (by rw [nI_len]; omega)
    · rw [hd1]
      refine Ev.add ?_ Ev.int
      refine Ev.mod ?_ Ev.int (by decide)
      exact Ev.itemL (Ev.isH (Ev.cellH (F₃.keep _ _ S.b.a.cn)) (S.b.a.n.at F₃.keep)) Ev.int (by decide) (by omega) (by omega)
  · exact Ev.loc F₃
  · exact Ev.locI F₃
  intro tx o' h₄ hoc hod F₄
  rw [Int.toNat_natCast] at hod
  have hig4 : IntsAre (vg.set (kk ns) (.int (((gvn ns).getD (kk ns) 0 ^^^ dd ns : Nat) : Int) tx)) (nI (turned (gvn ns) (kk ns) (dd ns))) := by
    have := ints_set hig (kk ns) (((gvn ns).getD (kk ns) 0 ^^^ dd ns : Nat) : Int) tx
    rw [nI_set] at this
    exact this
  obtain ⟨B₅, hB5, c5, F₅⟩ := frz1 F₄
  have lgt : LA B₅ ag (nI (turned (gvn ns) (kk ns) (dd ns))) := ⟨o', _, c5, hoc, hod, hig4⟩
  have S₅ := S.mono hB5
  have k5 := kp hB5 F₅
  refine wpH_execs_cons ?_
  refine asgThrough (base := h₀) (xs := chs ns) (ys := turned (gvn ns) (kk ns) (dd ns)) (D.keeps k5) R hfr k5 (hfun F₅) F₅ (Ev.loc F₅) (Ev.loc F₅) (S₅.c.at F₅.keep) (lgt.at F₅.keep) (by rw [turned_len]; omega) (by omega) T.c8 (turned8 T hd3) ?_ (fun ⟨i, hi, hz⟩ => absurd hz (hok i hi))
  intro _ r2 g2 h₆ hAL2 F₆
  obtain ⟨B₆, hB6, c6, F₆⟩ := frz1 F₆
  have S₆ := S₅.mono hB6
  have lg6 := lgt.mono hB6
  have hWl : (lagW (chs ns) (turned (gvn ns) (kk ns) (dd ns)) (chs ns).length).length = sz ns := by rw [lagW_len, hcl]
  refine wpH_execs_cons ?_
  refine asgL F₆ (ns := nI ((chs ns).take (kk ns) ++ (chs ns).drop (kk ns + 1))) ?_ ?_
  · rw [← nI_append, ← pick_take (chs ns) (by omega : kk ns ≤ (chs ns).length), ← pick_drop (chs ns) (by omega : kk ns + 1 ≤ (chs ns).length)]
    refine Ev.ladd ?_ ?_ ?_ ?_
    · refine Ev.lsliceI ?_ ?_ ?_ ?_
      · exact Ev.isH (Ev.loc F₆) (S₆.c.at F₆.keep)
      · exact EvO.none
      · exact EvO.some (Ev.locI F₆)
      · rw [nI_len]; omega
    · refine Ev.lsliceI ?_ ?_ ?_ ?_
      · exact Ev.isH (Ev.loc F₆) (S₆.c.at F₆.keep)
      · exact EvO.some (Ev.add (Ev.locI F₆) Ev.int)
      · exact EvO.none
      · rw [nI_len]; omega
    · rw [pick_take (chs ns) (by omega : kk ns ≤ (chs ns).length), nI_len]; simp; omega
    · rw [pick_drop (chs ns) (by omega : kk ns + 1 ≤ (chs ns).length), nI_len]; simp; omega
  intro ak vk mk h₇ hik F₇
  obtain ⟨B₇, hB7, c7, F₇⟩ := frz1 F₇
  have S₇ := S₆.mono hB7
  have lg7 := lg6.mono hB7
  have cg7 := hB7 _ _ c6
  have lk7 : LA B₇ ak (nI ((chs ns).take (kk ns) ++ (chs ns).drop (kk ns + 1))) := LA.li c7 hik
  have hB07 : ∀ b o, B b = some o → B₇ b = some o := fun b o e => hB7 _ _ (hB6 _ _ (hB5 _ _ e))
  have F₇ := F₇.weak (l' := [("size", .int (sz ns : Nat) t), ("chosen", .ref ac), ("given", .ref ag), ("k", .int (kk ns : Nat) tk), ("found", .ref g2), ("kept", .ref ak)]) ⟨rfl, rfl, rfl, rfl, rfl, rfl, trivial⟩
  have k7 := kp hB07 F₇
  obtain ⟨o1, vs1, b1, b2, b3, b4⟩ := S₇.b.p
  obtain ⟨o2, vs2, d1, d2, d3, d4⟩ := S₇.b.v
  refine wpH_execs_cons ?_
  refine for_zip F₇ R.hd (Ev.zp (D.keeps k7)) (Ev.cellH (F₇.keep _ _ S₇.b.cp)) (Ev.cellH (F₇.keep _ _ S₇.b.cv)) b1 b2 b3 b4 d1 d2 d3 d4 (by rw [nI_len, nI_len]; omega) ?_ ?_
  · intro j B' t1 t2 h₈ hj hB8 F₈
    rw [nI_len] at hj
    rw [nI_get, nI_get] at F₈
    have k8 := kp (fun b o e => hB8 _ _ (hB07 _ _ e)) F₈
    have D₈ := D.keeps k8
    have hx8 := getD_lt (plcs8 ns) j
    have hvj : (vals ns).getD j 0 = peval (octs ns) ((plcs ns).getD j 0) := by
      have : vals ns = (plcs ns).map (peval (octs ns)) := by rw [← vals_eq, nI_map (plcs ns) (peval (octs ns))]
      rw [this, getD_map _ _ (by omega)]
    have hiff := turned_iff T nd (by omega : kk ns < (chs ns).length) hd2 hd3 hx8
    refine wpH_execs_cons ?_
    refine iff (b := (((peval (lagW (chs ns) (turned (gvn ns) (kk ns) (dd ns)) (chs ns).length) ((plcs ns).getD j 0) : Nat) : Int) == (((vals ns).getD j 0 : Nat) : Int)) != (nI ((chs ns).take (kk ns) ++ (chs ns).drop (kk ns + 1))).any (· == (((plcs ns).getD j 0 : Nat) : Int))) ?_ (fun e => absurd e ?_) (fun _ h₉ k₉ => wpH_execs_nil (wpH_execs_nil ⟨rfl, (F₈.keeps k₉).weak ⟨rfl, rfl, rfl, rfl, rfl, rfl, trivial⟩⟩))
    · refine EvT.neB ?_ ?_
      · refine Ev.eqI ?_ ?_
        · exact Ev.pval D₈ R (Ev.loc F₈) (F₈.keep _ _ (hB8 _ _ cg7)) hAL2 (by omega) (by omega) (Ev.locI F₈) hx8
        · exact Ev.locI F₈
      · exact Ev.inL (Ev.locI F₈) (Ev.isH (Ev.loc F₈) ((lk7.mono hB8).at F₈.keep))
    · rw [any_nI, hvj]
      by_cases hm : (plcs ns).getD j 0 ∈ (chs ns).take (kk ns) ++ (chs ns).drop (kk ns + 1)
      · have := hiff.mpr hm
        rw [this, decide_eq_true hm, beq_self_eq_true]
        decide
      · have : peval (lagW (chs ns) (turned (gvn ns) (kk ns) (dd ns)) (chs ns).length) ((plcs ns).getD j 0) ≠ peval (octs ns) ((plcs ns).getD j 0) := fun e => hm (hiff.mp e)
        have e1 : ((((peval (lagW (chs ns) (turned (gvn ns) (kk ns) (dd ns)) (chs ns).length) ((plcs ns).getD j 0) : Nat) : Int)) == ((peval (octs ns) ((plcs ns).getD j 0) : Nat) : Int)) = false := by
          rw [beq_eq_false_iff_ne]; omega
        rw [e1, decide_eq_false hm]
        decide
  · intro h₈ F₈
    have k8 := kp hB07 F₈
    have D₈ := D.keeps k8
    have hg8 := F₈.keep _ _ cg7
    refine wpH_execs_cons ?_
    refine retE (V := Is (.bool true)) ?_ ?_
    · have e1 : (((r2.size : Nat) : Int) == ((sz ns : Nat) : Int)) = true := by rw [hAL2.1, hWl]; simp
      have e2 : (((peval (lagW (chs ns) (turned (gvn ns) (kk ns) (dd ns)) (chs ns).length) ((chs ns).getD (kk ns) 0) : Nat) : Int) == (((turned (gvn ns) (kk ns) (dd ns)).getD (kk ns) 0 : Nat) : Int)) = true := by
        rw [turned_at T nd (by omega) hd3 (by omega), turned_get (by omega)]; simp
      have e3 : (true : Bool) = ((((r2.size : Nat) : Int) == ((sz ns : Nat) : Int)) && (((peval (lagW (chs ns) (turned (gvn ns) (kk ns) (dd ns)) (chs ns).length) ((chs ns).getD (kk ns) 0) : Nat) : Int) == (((turned (gvn ns) (kk ns) (dd ns)).getD (kk ns) 0 : Nat) : Int))) := by rw [e1, e2]; rfl
      rw [e3]
      refine Ev.andB ?_ (fun _ => ?_)
      · refine Ev.eqI ?_ ?_
        · exact Ev.lenB (Ev.len' D₈) (Ev.isB (Ev.loc F₈) hg8) (by rw [hAL2.1, hWl]; exact sz_of _ (by omega))
        · exact Ev.locI F₈
      · refine Ev.eqI ?_ ?_
        · refine Ev.pval D₈ R (Ev.loc F₈) hg8 hAL2 (by omega) (by omega) ?_ (getD_lt T.c8 _)
          rw [← nI_get]
          exact Ev.itemL (k := ((kk ns : Nat) : Int)) (Ev.isH (Ev.loc F₈) (S₇.c.at F₈.keep)) (Ev.locI F₈) (by omega) (by rw [nI_len]; omega) (by rw [nI_len]; omega)
        · rw [← nI_get]
          exact Ev.itemL (k := ((kk ns : Nat) : Int)) (Ev.isH (Ev.loc F₈) (lg7.at F₈.keep)) (Ev.locI F₈) (by omega) (by rw [nI_len, turned_len]; omega) (by rw [nI_len, turned_len]; omega)
    · intro v h₉ k₉ hv
      obtain rfl := hv _ Keep.rfl
      exact q h₉ (k8.trans k₉)
end
end Mine
namespace Mine
open PySem PySem.W PyProof.Rows PySem.Calls
open Sem (wp)
section
variable {prog : Program} {w : World} {s : Shared} {A : Around} {h : Heap} {fa : Nat → Addr} {la ea : Addr} {lg ex : Array UInt8} {mg mb : Str → Option Value}
/-- the law gives True -/
theorem con_law (D : Md fa la ea lg ex mg mb h) (R : Room A 5) (hfr : A.frames = some []) {a : Addr} {sc : List Int} (ha : LAh h a sc) (h63 : sc.length ≤ 63) : Con (model prog w) s A (fa 17) [.ref a] h (Is (.bool true)) := by
  refine con_ofC (names := ["script"]) D R (by decide) (fun _ _ _ => by rfl) (fun L y hy => ?_) fun L pm c doc h₁ Q X D₁ k₁ F R₁ q => ?_
  · simp only [List.zip_cons_cons, List.zip_nil_right, List.mem_cons, List.not_mem_nil, or_false] at hy
    subst hy
    exact .inl (by rfl)
  have e : stepB (callEnvC (fdOf 17 .none pm c doc) L (fa 17)) ([("script" : Str)].zip [Value.ref a]) [] (cellsN (L + 1) (fnAt 17).2.2.2.names) = (([("script", .ref a)] : List (Str × Value)), [(L + 1, cellO none), (L + 2, cellO none), (L + 3, cellO none), (L + 4, cellO none), (L + 5, cellO none), (L + 6, cellO none)]) := by
    have h1 : (callEnvC (fdOf 17 .none pm c doc) L (fa 17)).kindOf "script" = some .local := by rfl
    have h5 : cellsN (L + 1) (fnAt 17).2.2.2.names = [(L + 1, cellO none), (L + 2, cellO none), (L + 3, cellO none), (L + 4, cellO none), (L + 5, cellO none), (L + 6, cellO none)] := by rfl
    simp [h5, stepB, h1, setL]
  rw [e] at F
  have hfr' : (A.deeper (lenv pm c doc L (fa 17))).frames = some [lenv pm c doc L (fa 17)] := Around.frames_deeper hfr
  refine lawA D R₁ (fun _ _ e => e) F ha h63 fun B' h' an ao ae at' t S F₂ => ?_
  refine lawB D R₁ (nums_len sc) S F₂ fun B' h' ap av S F₃ => ?_
  refine lawC D R₁ (nums_len sc) S F₃ fun B' h' ac ag vg mg' S hig F₄ => ?_
  exact lawD D R₁ hfr' (nums_len sc) S hig F₄ fun h'' k => q _ _ k fun _ _ => rfl
end
end Mine
namespace Mine
open PySem PySem.W PyProof.Rows PySem.Calls
open Sem (wp)
/-! ## The top's own defs: the doubling -/
theorem dbl : ∀ x : Nat, x < 256 → (if Builtin.bitAnd ((x : Int) * 2 ^ (1 : Int).toNat) 256 != 0 then Builtin.bitXor ((x : Int) * 2 ^ (1 : Int).toNat) 285 else (x : Int) * 2 ^ (1 : Int).toNat) = ((xt x : Nat) : Int) := by decide +kernel
section
variable {prog : Program} {w : World} {s : Shared} {A : Around} {env : Env} {h : Heap} {B : Addr → Option Obj} {L : Addr} {X : Value → Heap → Prop} {mg mb : Str → Option Value}
theorem codeH_wT {test : Expr} {body : List Stmt} {R : Result → Heap → Prop} (t : EvT (model prog w) s A env h test true)
    (b : ∀ h₁, Keep h h₁ → wpH (model prog w) s A (execs body env) (fun f h₂ => f = .next ∧ codeH (model prog w) s A (.whileLoop test body [] env) R h₂) noX h₁) : codeH (model prog w) s A (.whileLoop test body [] env) R h := by
  refine codeH_of_tree ?_
  show wpH _ _ A ((whileTurn test body [] env).onRaise (fun x => do noteFrame x env; theTreesLotGoes x)) _ _ h
  refine wpH_onRaise (wpH_noX ?_)
  simp only [whileTurn]
  refine wpH_bind (t h Keep.rfl _ _ fun h₁ k => ?_)
  rw [if_pos rfl]
  refine wpH_bind (wpH_post (b h₁ k) fun f h₂ ⟨e, c⟩ => ?_)
  subst e
  exact wpH_pure ⟨rfl, c⟩
theorem codeH_wF {test : Expr} {body : List Stmt} {R : Result → Heap → Prop} (t : EvT (model prog w) s A env h test false) (q : ∀ h₁, Keep h h₁ → R (.ok .next) h₁) : codeH (model prog w) s A (.whileLoop test body [] env) R h := by
  refine codeH_of_tree ?_
  show wpH _ _ A ((whileTurn test body [] env).onRaise (fun x => do noteFrame x env; theTreesLotGoes x)) _ _ h
  refine wpH_onRaise (wpH_noX ?_)
  simp only [whileTurn]
  refine wpH_bind (t h Keep.rfl _ _ fun h₁ k => ?_)
  rw [if_neg (by decide)]
  exact wpH_bind (wpH_execs_nil (wpH_pure (q h₁ k)))
theorem codeH_while {test : Expr} {body : List Stmt} {R : Result → Heap → Prop} (I : Nat → Heap → Prop)
    (turn : ∀ n h, I n h → ∃ b, EvT (model prog w) s A env h test b ∧ (b = true → ∀ h₁, Keep h h₁ → wpH (model prog w) s A (execs body env) (fun f h₂ => f = .next ∧ ∃ m, m < n ∧ I m h₂) noX h₁) ∧ (b = false → ∀ h₁, Keep h h₁ → R (.ok .next) h₁))
    (n : Nat) (x : I n h) : codeH (model prog w) s A (.whileLoop test body [] env) R h := by
  induction n using Nat.strongRecOn generalizing h with
  | ind n ih =>
    obtain ⟨b, t, q1, q2⟩ := turn n h x
    cases b with
    | true => exact codeH_wT t fun h₁ k₁ => wpH_post (q1 rfl h₁ k₁) fun f h₂ ⟨e, m, hm, hI⟩ => ⟨e, ih m hm hI⟩
    | false => exact codeH_wF t fun h₁ k₁ => q2 rfl h₁ k₁
theorem con_mult {f T c' : Addr} {o oT : Obj} {pm doc : Value} {t1 t2 : Tok} {nT : Nat} (G : Gl mg mb h) (R : Room A 1) (ho : h.get? f = some o) (hd : o.data = .func (fdOf 8 (.ref T) pm (.ref c') doc)) (hc : h.CodeRec (.ref c') (fnAt 8).1)
    (hT : h.get? T = some oT) (hS : oT.data = .seq #[.int 0 t1, .int 256 t2, .bool true] nT) {x : Nat} {t u v z : Tok} (hx : x < 256) :
    Con (model prog w) s A f [.int x t, .int 2 u, .int 285 v, .int 256 z] h (IsI ((xt x : Nat) : Int)) := fun Q X q => by
  refine callH (binds := [("x", .int x t), ("y", .int 2 u), ("prim", .int 285 v), ("field_charac_full", .int 256 z), ("carryless", .bool true)]) (by have := R.d; omega) ho hd G.lim hc rfl (fun tk => BindsTo.of_defaults rfl hT hS rfl rfl) (show ∀ x ∈ (fnAt 8).2.2.2.names, x.2 ≠ .cell by decide) (locs (by rfl)) (fun L h₁ F => ?_) rfl rfl rfl
  refine wpH_mono (Q := fun fl h' => Q (match fl with | .ret v => v | _ => .none) h') (X := noX) ?_ (fun _ _ q => q) fun _ _ q => q.elim
  show wpH _ _ _ (execs ((fnAt 8).2.2.1.drop 0) _) _ _ _
  conv in (fnAt 8).2.2.1.drop 0 => whnf
  refine wpH_execs_cons ?_
  refine asgI F Ev.int ?_
  intro tr h₂ F₂
  refine wpH_execs_cons ?_
  rw [exec_While]
  refine wpH_bind (wpH_standAt (wpH_runOwn ?_))
  have x1 := xt_lt x hx
  refine codeH_while (fun n h' => (n = 2 ∧ ∃ a b c, Fra h.get? L [("x", .int x a), ("y", .int 2 b), ("prim", .int 285 v), ("field_charac_full", .int 256 z), ("carryless", .bool true), ("r", .int 0 c)] [] h') ∨
    (n = 1 ∧ ∃ a b c, Fra h.get? L [("x", .int (xt x : Nat) a), ("y", .int 1 b), ("prim", .int 285 v), ("field_charac_full", .int 256 z), ("carryless", .bool true), ("r", .int 0 c)] [] h') ∨
    (n = 0 ∧ ∃ b c, Fra h.get? L [("y", .int 0 b), ("r", .int (xt x : Nat) c)] [] h')) ?_ 2 (.inl ⟨rfl, t, u, tr, F₂.weak ⟨rfl, rfl, rfl, rfl, rfl, rfl, trivial⟩⟩)
  rintro n h₃ (⟨rfl, ta, tb, tc, F₃⟩ | ⟨rfl, ta, tb, tc, F₃⟩ | ⟨rfl, tb, tc, F₃⟩)
  · refine ⟨_, EvT.int (Ev.locI F₃), fun _ h₃' k₃ => ?_, fun e => absurd e (by decide)⟩
    have F₃ := F₃.keeps k₃
    refine wpH_execs_cons (iff (EvT.int (Ev.and (Ev.locI F₃) Ev.int)) (fun e => absurd e (by decide)) fun _ h₄ k₄ => wpH_execs_nil ?_)
    have F₄ := F₃.keeps k₄
    refine wpH_execs_cons (asgI F₄ (Ev.shr (Ev.locI F₄) Ev.int (by decide)) fun ty h₅ F₅ => ?_)
    rw [show (2 : Int).fdiv (2 ^ (1 : Int).toNat) = 1 by decide] at F₅
    refine wpH_execs_cons (asgI F₅ (Ev.shl (Ev.locI F₅) Ev.int (by decide) (by decide) (by omega)) fun tx h₆ F₆ => ?_)
    refine wpH_execs_cons ?_
    refine iff (b := decide ((285 : Int) > 0) && (Builtin.bitAnd ((x : Int) * 2 ^ (1 : Int).toNat) 256 != 0)) (EvT.and (EvT.gt (Ev.locI F₆) Ev.int) fun _ => EvT.int (Ev.and (Ev.locI F₆) (Ev.locI F₆))) (fun e h₇ k₇ => ?_) (fun e h₇ k₇ => ?_)
    · have F₇ := F₆.keeps k₇
      refine wpH_execs_cons (asgI F₇ (i := ((xt x : Nat) : Int)) ?_ fun tx' h₈ F₈ => wpH_execs_nil (wpH_execs_nil ⟨rfl, 1, by decide, .inr (.inl ⟨rfl, tx', ty, tc, F₈.weak ⟨rfl, rfl, rfl, rfl, rfl, rfl, trivial⟩⟩)⟩))
      rw [← dbl x hx, if_pos (by simpa using e)]
      exact Ev.xor (Ev.locI F₇) (Ev.locI F₇)
    · have e' : (x : Int) * 2 ^ (1 : Int).toNat = ((xt x : Nat) : Int) := by rw [← dbl x hx, if_neg (by simpa using e)]
      rw [e'] at F₆
      exact wpH_execs_nil (wpH_execs_nil ⟨rfl, 1, by decide, .inr (.inl ⟨rfl, tx, ty, tc, (F₆.keeps k₇).weak ⟨rfl, rfl, rfl, rfl, rfl, rfl, trivial⟩⟩)⟩)
  · refine ⟨_, EvT.int (Ev.locI F₃), fun _ h₈ k₈ => ?_, fun e => absurd e (by decide)⟩
    have F₈ := F₃.keeps k₈
    refine wpH_execs_cons (iff (EvT.int (Ev.and (Ev.locI F₈) Ev.int)) (fun _ h₉ k₉ => ?_) fun e => absurd e (by decide))
    have F₉ := F₈.keeps k₉
    have hz : ((xt x : Nat) : Int) = ((0 ^^^ xt x : Nat) : Int) := by rw [Nat.zero_xor]
    refine wpH_execs_cons (asgI F₉ (i := ((xt x : Nat) : Int)) (Ev.ifexp (EvT.bool (Ev.loc F₉)) (fun _ => by rw [hz]; exact Ev.xorN (x := 0) (Ev.locI F₉) (Ev.locI F₉)) (fun e => absurd e (by decide))) fun tr' h₁₀ F₁₀ => wpH_execs_nil ?_)
    refine wpH_execs_cons (asgI F₁₀ (Ev.shr (Ev.locI F₁₀) Ev.int (by decide)) fun ty' h₁₁ F₁₁ => ?_)
    rw [show (1 : Int).fdiv (2 ^ (1 : Int).toNat) = 0 by decide] at F₁₁
    refine wpH_execs_cons (asgI F₁₁ (Ev.shl (Ev.locI F₁₁) Ev.int (by decide) (by decide) (by omega)) fun tx'' h₁₂ F₁₂ => ?_)
    refine wpH_execs_cons (iff (EvT.and (EvT.gt (Ev.locI F₁₂) Ev.int) fun _ => EvT.int (Ev.and (Ev.locI F₁₂) (Ev.locI F₁₂))) (fun e h₁₃ k₁₃ => ?_) (fun e h₁₃ k₁₃ => ?_))
    · have F₁₃ := F₁₂.keeps k₁₃
      exact wpH_execs_cons (asgI F₁₃ (Ev.xor (Ev.locI F₁₃) (Ev.locI F₁₃)) fun _ h₁₄ F₁₄ => wpH_execs_nil (wpH_execs_nil ⟨rfl, 0, by decide, .inr (.inr ⟨rfl, ty', tr', F₁₄.weak ⟨rfl, rfl, trivial⟩⟩)⟩))
    · exact wpH_execs_nil (wpH_execs_nil ⟨rfl, 0, by decide, .inr (.inr ⟨rfl, ty', tr', (F₁₂.keeps k₁₃).weak ⟨rfl, rfl, trivial⟩⟩)⟩)
  · refine ⟨_, EvT.int (Ev.locI F₃), fun e => absurd e (by decide), fun _ h₄ k₄ => ?_⟩
    have F₄ := F₃.keeps k₄
    exact wpH_execs_cons (retE (Ev.locI F₄) fun v h₁₅ k₁₅ hv => q _ _ (Keep.trans F₄.keep k₁₅) hv)
end
end Mine
namespace Mine
open PySem PySem.W PyProof.Rows PySem.Calls
open Sem (wp)
/-! ## The tables -/
structure Mi (fm T c' : Addr) (mg mb : Str → Option Value) (h : Heap) : Prop where
  gl : Gl mg mb h
  bt : mg "_bytearray" = some (.type "bytearray")
  xr : mg "xrange" = some (.type "range")
  int : mg "int" = none
  mul : mg "gf_mult_noLUT" = some (.ref fm)
  at' : ∃ o oT pm doc t1 t2 nT, h.get? fm = some o ∧ o.data = .func (fdOf 8 (.ref T) pm (.ref c') doc) ∧ h.CodeRec (.ref c') (fnAt 8).1 ∧ h.get? T = some oT ∧ oT.data = .seq #[.int 0 t1, .int 256 t2, .bool true] nT
theorem Mi.keeps {fm T c' : Addr} {mg mb : Str → Option Value} {h h' : Heap} (x : Mi fm T c' mg mb h) (k : Keep h h') : Mi fm T c' mg mb h' :=
  ⟨x.gl.keeps k, x.bt, x.xr, x.int, x.mul, let ⟨o, oT, pm, doc, t1, t2, nT, a, b, c, d, e⟩ := x.at'; ⟨o, oT, pm, doc, t1, t2, nT, k _ _ a, b, c.keeps k, k _ _ d, e⟩⟩
theorem bAt_set2 {b : Array UInt8} {k x : Nat} (hk : k < b.size) (hx : x < 256) (j : Nat) : bAt (b.setIfInBounds k x.toUInt8) j = if j = k then x else bAt b j := by
  unfold bAt
  by_cases e : j = k
  · subst e
    simp [Array.getD, hk]
    omega
  · rw [if_neg e]
    by_cases hj : j < b.size
    · simp [Array.getD, hj, Array.getElem_setIfInBounds, Ne.symm e]
    · simp [Array.getD, hj]
section
variable {prog : Program} {w : World} {s : Shared} {A : Around} {env : Env} {h : Heap} {B : Addr → Option Obj} {L : Addr} {l : List (Str × Value)} {N : List (Addr × Obj)} {X : Value → Heap → Prop} {mg mb : Str → Option Value} {fm T c' : Addr}
theorem setB_item {o i : Expr} {pos' pos : Pos} {value : Expr} {a : Addr} {b : Array UInt8} {k x : Nat} {Q : Flow → Heap → Prop} (F : Fra B L l ((a, ba b) :: N) h)
    (zv : Ev (model prog w) s A env h value (IsI ((x : Nat) : Int))) (zo : Ev (model prog w) s A env h o (Is (.ref a))) (zi : Ev (model prog w) s A env h i (IsI ((k : Nat) : Int))) (h1 : k < b.size) (h2 : b.size ≤ 1000) (hx : x < 256)
    (q : ∀ h', Fra B L l ((a, ba (b.setIfInBounds k x.toUInt8)) :: N) h' → Q .next h')
    (hs : swapsWith value (some (.Subscript o i pos')) pos.line env = pure false := by rfl) : wpH (model prog w) s A (exec (.Assign [.Subscript o i pos'] value pos) env) Q X h := by
  refine wpH_Assign_Subscript (zv.wp fun v h₁ k₁ hv => zo h₁ k₁ _ _ fun ov h₂ k₂ ho => zi h₂ (k₁.trans k₂) _ _ fun iv h₃ k₃ hi => ?_) hs
  obtain ⟨t, rfl⟩ := hv _ Keep.rfl
  obtain rfl := ho _ Keep.rfl
  obtain ⟨t', rfl⟩ := hi _ Keep.rfl
  have F₃ := F.keeps ((k₁.trans k₂).trans k₃)
  have ha := F₃.news _ (List.mem_cons_self ..)
  refine wpH_any fun tk => setItem_ba (s := stt s h₃ tk) ha (by omega) (by omega) (sz_of _ h2) (by omega) (by omega) fun h' hl sb => ⟨h', tk, rfl, ?_⟩
  have F₄ := F₃.upd sb hl (by simp)
  rw [updN_head] at F₄
  simp only [Int.toNat_natCast] at F₄
  exact q h' F₄
theorem Ev.intI {x : Str} {e : Expr} {p pos : Pos} {i : Int} (y : Ev (model prog w) s A env h (.Name x p) (Is (.type "int"))) (z : Ev (model prog w) s A env h e (IsI i))
    (he : starEach [e] env = (false, eval e env) :: starEach [] env := by rfl) (hne : ∀ pos, (backTo pos (starEach [e] env)).all (fun x => !x.1) = true := by intro _; rfl) : Ev (model prog w) s A env h (.Call (.Name x p) [e] [] pos) (IsI i) :=
  Ev.call y rfl (EvL.cons z EvL.nil he) (fun vs h₁ _ hvs Q X q => by
    obtain ⟨v, r, rfl, ⟨t, rfl⟩, rfl⟩ := hvs
    exact wpH_any fun tk => call_int_int (s := stt s h₁ tk) ⟨h₁, tk, rfl, q _ _ Keep.rfl fun _ _ => ⟨_, rfl⟩⟩) hne
theorem asgB2 {x : Str} {p pos : Pos} {e : Expr} {b : Array UInt8} {Q : Flow → Heap → Prop} (F : Fra B L l N h) (y : Ev (model prog w) s A env h e (NewB h b))
    (q : ∀ a h', Fra B L (setL x (.ref a) l) ((a, ba b) :: N) h' → Q .next h') (hs : swapsWith e (some (.Name x p)) pos.line env = pure false := by rfl)
    (hL : env.locals = L := by rfl) (hl : env.kindOf x = some .local := by rfl) (hk : env.scope.kind = .function := by rfl) : wpH (model prog w) s A (exec (.Assign [.Name x p] e pos) env) Q X h :=
  wpH_Assign_Name (y.wp fun v h₁ k hv => by
    obtain ⟨a, rfl, hn, ha⟩ := hv _ Keep.rfl
    exact wpH_store (F.fresh k hn ha) (fun h' sb F' => q a h' F') hL hl hk) hs
theorem Ev.mult {a b c d : Expr} {p pos : Pos} {x : Nat} (M : Mi fm T c' mg mb h) (R : Room A 1) (u : Ev (model prog w) s A env h a (IsI ((x : Nat) : Int))) (v : Ev (model prog w) s A env h b (IsI 2)) (y : Ev (model prog w) s A env h c (IsI 285)) (z : Ev (model prog w) s A env h d (IsI 256)) (hx : x < 256)
    (h1 : starEach [a, b, c, d] env = (false, eval a env) :: starEach [b, c, d] env := by rfl) (h2 : starEach [b, c, d] env = (false, eval b env) :: starEach [c, d] env := by rfl) (h3 : starEach [c, d] env = (false, eval c env) :: starEach [d] env := by rfl) (h4 : starEach [d] env = (false, eval d env) :: starEach [] env := by rfl)
    (hln : ∀ pos, (backTo pos (starEach [a, b, c, d] env)).length = 4 := by intro _; rfl) (hne : ∀ pos, (backTo pos (starEach [a, b, c, d] env)).all (fun x => !x.1) = true := by intro _; rfl)
    (hg : env.globals = mainGlobals := by rfl) (hk : env.scope.kind = .function := by rfl) (hl : env.kindOf "gf_mult_noLUT" = some .globalImplicit := by rfl) : Ev (model prog w) s A env h (.Call (.Name "gf_mult_noLUT" p) [a, b, c, d] [] pos) (IsI ((xt x : Nat) : Int)) := by
  obtain ⟨o, oT, pm, doc, t1, t2, nT, e1, e2, e3, e4, e5⟩ := M.at'
  refine Ev.fn (Ev.glob M.gl M.mul hg hk hl) e1 e2 (EvL.cons u (EvL.cons v (EvL.cons y (EvL.cons z EvL.nil h4) h3) h2) h1) (fun vs h₄ k₄ hvs => ?_) (by simp) hln hne
  obtain ⟨v, r, rfl, ⟨ta, rfl⟩, v', r', rfl, ⟨tb, rfl⟩, v'', r'', rfl, ⟨tc, rfl⟩, v3, r3, rfl, ⟨td, rfl⟩, rfl⟩ := hvs
  exact con_mult (M.gl.keeps k₄) R (k₄ _ _ e1) e2 (e3.keeps k₄) (k₄ _ _ e4) e5 hx
theorem Ev.list3 {e₁ e₂ e₃ : Expr} {pos : Pos} {U V W : Value → Heap → Prop} (x : Ev (model prog w) s A env h e₁ U) (y : Ev (model prog w) s A env h e₂ V) (z : Ev (model prog w) s A env h e₃ W)
    (h1 : starEach [e₁, e₂, e₃] env = (false, eval e₁ env) :: starEach [e₂, e₃] env := by rfl) (h2 : starEach [e₂, e₃] env = (false, eval e₂ env) :: starEach [e₃] env := by rfl) (h3 : starEach [e₃] env = (false, eval e₃ env) :: starEach [] env := by rfl) :
    Ev (model prog w) s A env h (.List [e₁, e₂, e₃] pos) (fun v h' => ∃ a v1 v2 v3, v = .ref a ∧ h'.get? a = some (liO [v1, v2, v3] 0) ∧ U v1 h' ∧ V v2 h' ∧ W v3 h') := fun h₁ k₁ Q X q => by
  show wpH _ _ _ (do standAt pos; newList (← spliced (backTo pos (starEach [e₁, e₂, e₃] env)))) _ _ _
  refine wpH_bind (wpH_standAt (wpH_bind (EvL.cons x (EvL.cons y (EvL.cons z EvL.nil h3) h2) h1 pos h₁ k₁ _ _ fun vs h₂ k₂ hv => ?_)))
  obtain ⟨v, r, rfl, _, v', r', rfl, _, v'', r'', rfl, _, rfl⟩ := hv _ Keep.rfl
  refine wpH_any fun tk => wpAny_newObj_type (s := stt s h₂ tk) ⟨_, _, rfl, q _ _ (k₂.trans fun b o e => Heap.get?_push_of_some _ e) fun h₃ k₃ => ?_⟩ (by show 3 ≤ sizeLine; exact sz_of _ (by decide))
  have k23 : Keep h₂ h₃ := fun b o e => k₃ _ _ (Heap.get?_push_of_some _ e)
  obtain ⟨a, b, e, c, a', b', e', c', a'', b'', e'', c'', _⟩ := hv h₃ k23
  cases e; cases e'; cases e''
  exact ⟨_, v, v', v'', rfl, k₃ _ _ (Heap.get?_push_size _ rfl), c, c', c''⟩
def IsTabs : Value → Heap → Prop := fun v h' => ∃ a la ea lg ex t m, v = .ref a ∧ h'.get? a = some (liO [.ref la, .ref ea, .int 255 t] m) ∧ h'.get? la = some (ba lg) ∧ h'.get? ea = some (ba ex) ∧ Tab lg ex
theorem con_init {f Ti ci : Addr} {o oT : Obj} {pm doc : Value} {t1 t2 t3 : Tok} {nT : Nat} (M : Mi fm T c' mg mb h) (R : Room A 2) (ho : h.get? f = some o) (hd : o.data = .func (fdOf 3 (.ref Ti) pm (.ref ci) doc)) (hc : h.CodeRec (.ref ci) (fnAt 3).1)
    (hT : h.get? Ti = some oT) (hS : oT.data = .seq #[.int 285 t1, .int 2 t2, .int 8 t3] nT) : Con (model prog w) s A f [] h IsTabs := fun Q X q => by
  refine callH (binds := [("prim", .int 285 t1), ("generator", .int 2 t2), ("c_exp", .int 8 t3)]) (by have := R.d; omega) ho hd M.gl.lim hc rfl (fun tk => BindsTo.of_defaults rfl hT hS rfl rfl) (show ∀ x ∈ (fnAt 3).2.2.2.names, x.2 ≠ .cell by decide) (locs (by rfl)) (fun L h₁ F => ?_) rfl rfl rfl
  refine wpH_mono (Q := fun fl h' => Q (match fl with | .ret v => v | _ => .none) h') (X := noX) ?_ (fun _ _ q => q) fun _ _ q => q.elim
  have R₁ := R.deeper (env := callEnv (fdOf 3 (.ref Ti) pm (.ref ci) doc) L f)
  show wpH _ _ _ (execs ((fnAt 3).2.2.1.drop 0) _) _ _ _
  conv in (fnAt 3).2.2.1.drop 0 => whnf
  have M₁ := M.keeps F.keep
  refine wpH_execs_cons ?_
  refine asgI F (i := (2 : Int) ^ (8 : Int).toNat - 1) ?_ ?_
  · refine Ev.intI ?_ ?_
    · exact Ev.blt M₁.gl M₁.int (by decide +kernel)
    · refine Ev.sub ?_ Ev.int
      refine Ev.pow Ev.int (Ev.locI F) (by decide) ?_
      have : Builtin.Int.intBits 2 = 2 := by decide +kernel
      rw [this]; decide
  intro tf h₂ F₂
  rw [show (2 : Int) ^ (8 : Int).toNat - 1 = 255 by decide] at F₂
  have M₂ := M.keeps F₂.keep
  refine wpH_execs_cons ?_
  refine asgB2 F₂ (b := Array.replicate 510 0) ?_ ?_
  · exact Ev.baI (n := 255 * 2) (k := 510) (Ev.glob M₂.gl M₂.bt) (Ev.mul (Ev.locI F₂) Ev.int (.of_right (bits_small (by decide) (by decide)))) (by decide) (by decide) R₁.g
  intro ea h₃ F₃
  have M₃ := M.keeps F₃.keep
  refine wpH_execs_cons ?_
  refine asgB2 F₃ (b := Array.replicate 256 0) ?_ ?_
  · exact Ev.baI (n := 255 + 1) (k := 256) (Ev.glob M₃.gl M₃.bt) (Ev.add (Ev.locI F₃) Ev.int) (by decide) (by decide) R₁.g
  intro la h₄ F₄
  refine wpH_execs_cons ?_
  refine asgI F₄ Ev.int ?_
  intro tx h₅ F₅
  have M₅ := M.keeps F₅.keep
  refine wpH_execs_cons ?_
  refine for_range (n := 255) (a := 0) (b := 255) (S := Array UInt8 × Array UInt8 × Tok) (fun k σ => [("prim", .int 285 t1), ("generator", .int 2 t2), ("field_charac", .int 255 tf), ("gf_exp", .ref ea), ("gf_log", .ref la), ("x", .int (gexp k : Nat) σ.2.2)]) (fun _ σ => [(la, ba σ.1), (ea, ba σ.2.1)])
    (fun k σ => σ.1.size = 256 ∧ σ.2.1.size = 510 ∧ (∀ j, j < k → bAt σ.2.1 j = gexp j) ∧ ∀ j, j < k → bAt σ.1 (gexp j) = j) (Array.replicate 256 0, Array.replicate 510 0, tx) ⟨by simp, by simp, fun j hj => absurd hj (by omega), fun j hj => absurd hj (by omega)⟩ (F₅.weak ⟨rfl, rfl, rfl, rfl, rfl, rfl, trivial⟩) R₁.hd ?_ (by decide) (by decide) (by decide) ?_ ?_
  · exact Ev.range1 (Ev.glob M₅.gl M₅.xr) (Ev.locI F₅)
  · rintro k ⟨lg, ex, tx⟩ B' ti h₆ hk ⟨p1, p2, p3, p4⟩ hB F₆
    dsimp only at p1 p2 p3 p4 F₆
    have gk := gexp_lt k
    rw [show ((0 : Int) + (k : Int)) = ((k : Nat) : Int) by omega] at F₆
    have F₆ := F₆.perm (N' := [(ea, ba ex), (la, ba lg)]) (.swap ..)
    refine wpH_execs_cons ?_
    refine setB_item F₆ (k := k) (x := gexp k) ?_ ?_ ?_ (by omega) (by omega) gk ?_
    · exact Ev.locI F₆
    · exact Ev.loc F₆
    · exact Ev.locI F₆
    intro h₇ F₇
    have F₇ := F₇.perm (N' := [(la, ba lg), (ea, ba (ex.setIfInBounds k (gexp k).toUInt8))]) (.swap ..)
    refine wpH_execs_cons ?_
    refine setB_item F₇ (k := gexp k) (x := k) ?_ ?_ ?_ (by omega) (by omega) (by omega) ?_
    · exact Ev.locI F₇
    · exact Ev.loc F₇
    · exact Ev.locI F₇
    intro h₈ F₈
    have M₈ := M.keeps fun b o e => F₈.keep _ _ (hB b o e)
    refine wpH_execs_cons ?_
    refine asgI F₈ (i := ((gexp (k + 1) : Nat) : Int)) ?_ ?_
    · rw [show gexp (k + 1) = xt (gexp k) from rfl]
      refine Ev.mult M₈ R₁ (Ev.locI F₈) (Ev.locI F₈) (Ev.locI F₈) ?_ gk
      exact Ev.add (a := 255) (b := 1) (Ev.locI F₈) Ev.int
    intro tx' h₉ F₉
    refine wpH_execs_nil ⟨rfl, (lg.setIfInBounds (gexp k) k.toUInt8, ex.setIfInBounds k (gexp k).toUInt8, tx'), ⟨by simpa using p1, by simpa using p2, fun j hj => ?_, fun j hj => ?_⟩, ?_⟩
    · rw [bAt_set2 (by omega) gk]
      by_cases e : j = k
      · rw [if_pos e, e]
      · rw [if_neg e, p3 j (by omega)]
    · rw [bAt_set2 (by omega) (by omega)]
      by_cases e : j = k
      · rw [e, if_pos rfl]
      · rw [if_neg (fun z => e (gexp_inj (by omega) (by omega) z)), p4 j (by omega)]
    · exact F₉.weak (l' := [("prim", .int 285 t1), ("generator", .int 2 t2), ("field_charac", .int 255 tf), ("gf_exp", .ref ea), ("gf_log", .ref la), ("x", .int (gexp (k + 1) : Nat) tx')]) ⟨rfl, rfl, rfl, rfl, rfl, rfl, trivial⟩
  rintro ⟨lg, ex, tx⟩ h₆ ⟨p1, p2, p3, p4⟩ F₆
  dsimp only at p1 p2 p3 p4 F₆
  have M₆ := M.keeps F₆.keep
  refine wpH_execs_cons ?_
  refine for_range (n := 255) (a := 255) (b := 255 * 2) (S := Array UInt8) (fun k σ => [("field_charac", .int 255 tf), ("gf_exp", .ref ea), ("gf_log", .ref la)]) (fun _ σ => [(la, ba lg), (ea, ba σ)])
    (fun k σ => σ.size = 510 ∧ ∀ j, j < 255 + k → bAt σ j = gexp (j % 255)) ex ⟨p2, fun j hj => by rw [Nat.mod_eq_of_lt (by omega)]; exact p3 j (by omega)⟩ (F₆.weak ⟨rfl, rfl, rfl, trivial⟩) R₁.hd ?_ (by decide) (by decide) (by decide) ?_ ?_
  · exact Ev.range2 (Ev.glob M₆.gl M₆.xr) (Ev.locI F₆) (Ev.mul (Ev.locI F₆) Ev.int (.of_right (bits_small (by decide) (by decide))))
  · rintro k ex B' ti h₇ hk ⟨q1, q2⟩ hB F₇
    have F₇ := F₇.perm (N' := [(ea, ba ex), (la, ba lg)]) (.swap ..)
    have hex := F₇.news _ (List.mem_cons_self ..)
    rw [show ((255 : Int) + (k : Int)) = ((255 + k : Nat) : Int) by omega] at F₇
    refine wpH_execs_cons ?_
    refine setB_item F₇ (k := 255 + k) (x := bAt ex k) ?_ ?_ ?_ (by omega) (by omega) (bAt_lt _ _) ?_
    · refine Ev.itemN (k := ((255 + k : Nat) : Int) - 255) ?_ ?_ (by omega) (by omega) (by omega)
      · exact Ev.isB (Ev.loc F₇) hex
      · exact Ev.sub (Ev.locI F₇) (Ev.locI F₇)
    · exact Ev.loc F₇
    · exact Ev.locI F₇
    intro h₈ F₈
    refine wpH_execs_nil ⟨rfl, ex.setIfInBounds (255 + k) (bAt ex k).toUInt8, ⟨by simpa using q1, fun j hj => ?_⟩, ?_⟩
    · rw [bAt_set2 (by omega) (bAt_lt _ _)]
      by_cases e : j = 255 + k
      · rw [if_pos e, e, q2 k (by omega)]
        congr 1
        omega
      · rw [if_neg e, q2 j (by omega)]
    · exact (F₈.perm (N' := [(la, ba lg), (ea, ba (ex.setIfInBounds (255 + k) (bAt ex k).toUInt8))]) (.swap ..)).weak (l' := [("field_charac", .int 255 tf), ("gf_exp", .ref ea), ("gf_log", .ref la)]) ⟨rfl, rfl, rfl, trivial⟩
  rintro ex h₇ ⟨q1, q2⟩ F₇
  have hl7 := F₇.news _ (List.mem_cons_self ..)
  have he7 := F₇.news (ea, ba ex) (by simp)
  refine wpH_execs_cons ?_
  refine retE (Ev.list3 (Ev.loc F₇) (Ev.loc F₇) (Ev.locI F₇)) ?_
  intro v h₈ k₈ hv
  refine q _ _ (Keep.trans F₇.keep k₈) fun h₉ k₉ => ?_
  obtain ⟨a, v1, v2, v3, rfl, e1, e2, e3, ⟨tt, e4⟩⟩ := hv h₉ k₉
  obtain rfl : v1 = .ref la := e2
  obtain rfl : v2 = .ref ea := e3
  subst e4
  exact ⟨a, la, ea, lg, ex, tt, 0, rfl, e1, k₉ _ _ (k₈ _ _ hl7), k₉ _ _ (k₈ _ _ he7), p1, q1, fun k hk => q2 k (by omega), fun k hk => p4 k hk⟩
end
end Mine
namespace Mine
open PySem PySem.W PyProof.Rows PySem.Calls
open Sem (wp)
/-! ## Unpacking a list -/
section
variable {prog : Program} {w : World} {A : Around} {E : Value → Shared → Prop} {s : Shared}
theorem draw_list {it t : Addr} {items : Array Value} (hne : t ≠ it) : ∀ (n i : Nat) (s : Shared) (Q : List Value → Shared → Prop), s.heap.IsListIter it t i → s.heap.IsList t items → i + n ≤ items.size →
    (∀ h', h'.IsListIter it t (i + n) → Heap.SameBut it s.heap h' → Q ((items.toList.drop i).take n) { s with heap := h' }) → wpAny (model prog w) A (draw (.ref it) n) Q E s
  | 0, i, s, Q, hit, _, _, hQ => by
    show wpAny _ _ (pure []) Q E s
    exact wpAny_pure (by simpa using hQ s.heap hit (Heap.SameBut.refl ..))
  | n + 1, i, s, Q, hit, ht, hle, hQ => by
    have hlt : i < items.size := by omega
    show wpAny _ _ (pyNext (.ref it) >>= _) Q E s
    refine wpAny_bind (wpAny_pyNext_list_item hit ht (x := items[i]) (by simp [hlt]) fun h₁ hit₁ hs₁ => ?_)
    refine wpAny_bind (wpAny_holding (draw_list hne n (i + 1) _ _ hit₁ (ht.extBut hs₁.extBut hne) (by omega) fun h₂ hit₂ hs₂ => wpAny_pure ?_))
    have hd : items.toList.drop i = items[i] :: items.toList.drop (i + 1) := by simp [List.drop_eq_getElem_cons, hlt]
    have := hQ h₂ (by rw [show i + (n + 1) = i + 1 + n by omega]; exact hit₂) (hs₁.trans hs₂)
    rw [hd, List.take_succ_cons] at this
    exact this
theorem unpackItems_list {t : Addr} {items : Array Value} {Q : List Value → Shared → Prop} (hh : A.handled = none) (ht : s.heap.IsList t items)
    (hQ : ∀ h', Heap.ExtBut s.heap.objs.size s.heap h' → Q items.toList { s with heap := h' }) : wpAny (model prog w) A (unpackItems (.ref t) items.size none) Q E s := by
  have hlt : t ≠ s.heap.objs.size := by obtain ⟨o, ho, _⟩ := ht; exact Nat.ne_of_lt (Heap.lt_size ho)
  unfold unpackItems
  refine wpAny_bind ?_
  · unfold notIterableAtAll
    refine wpAny_bind (wpAny_specialOf ht.typeIs slot_list_iter.lookup ?_)
    refine wpAny_pure ?_
    simp only [Bool.false_eq_true, if_false]
    refine wpAny_bind (wpAny_holding (wpAny_pyIter_list ht ?_))
    refine wpAny_bind (wpAny_holding (draw_list hlt items.size 0 _ _ ⟨_, Heap.get?_push_size _ rfl, rfl, rfl⟩ (ht.push _) (by omega) fun h₁ hit₁ hs₁ => ?_))
    have hall : List.take items.size (List.drop 0 items.toList) = items.toList := by
      rw [List.drop_zero]; exact List.take_of_length_le (by simp)
    rw [hall]
    rw [if_neg (by simp)]
    have ht₁ : h₁.IsList t items := (ht.push _).extBut hs₁.extBut hlt
    refine wpAny_bind (wpAny_holding (wpAny_pyNext_list_end hh hit₁ ht₁ (by simp) fun h₂ he₂ => ?_))
    simp only [Option.isSome_none, Bool.false_eq_true, if_false]
    refine wpAny_pure (hQ h₂ fun b o hb e => he₂ b o hb (hs₁.extBut b o hb (Heap.get?_push_of_some _ e)))
theorem assign_Tuple_list {env : Env} {elts : List Expr} {x1} {pos : Pos} {t : Addr} {items : Array Value} {Q : Unit → Shared → Prop} (hh : A.handled = none) (ht : s.heap.IsList t items)
    (hn : (assignEach elts env).length = items.size) (hstar : (assignEach elts env).findIdx? (·.1) = none)
    (h : ∀ h', Heap.ExtBut s.heap.objs.size s.heap h' → wpAny (model prog w) A (assignInOrder ((assignEach elts env).map (·.2)) items.toList) Q E { s with heap := h' }) :
    wpAny (model prog w) A (assign (.Tuple elts x1 pos) env (.ref t)) Q E s := by
  rw [arm_assign_Tuple]
  refine wpAny_bind (wpAny_standAt ?_)
  unfold unpack
  rw [hn, hstar]
  exact wpAny_bind (wpAny_holding (unpackItems_list hh ht h))
end
/-! ## The top's state -/
abbrev addr0 (a Pl : Addr) : Prop := a ≠ Pl ∧ a ≠ mainGlobals
def KeepB (Pl : Addr) (h h' : Heap) : Prop := ∀ b o, b ≠ Pl → b ≠ mainGlobals → h.get? b = some o → h'.get? b = some o
theorem KeepB.trans {Pl : Addr} {a b c : Heap} (x : KeepB Pl a b) (y : KeepB Pl b c) : KeepB Pl a c := fun d o h1 h2 e => y d o h1 h2 (x d o h1 h2 e)
theorem KeepB.rfl {Pl : Addr} {a : Heap} : KeepB Pl a a := fun _ _ _ _ e => e
theorem KeepB.of_keep {Pl : Addr} {a b : Heap} (x : Keep a b) : KeepB Pl a b := fun d o _ _ e => x d o e
abbrev mgOf (m₀ : Str → Option Value) (l : List (Str × Value)) : Str → Option Value := fun x => (l.lookup x).or (m₀ x)
theorem mgOf_cons (m₀ : Str → Option Value) (l : List (Str × Value)) (n : Str) (v : Value) : (fun x => if x = n then some v else mgOf m₀ l x) = mgOf m₀ ((n, v) :: l) := by
  funext x
  by_cases e : x = n
  · subst e; simp [mgOf]
  · have : (x == n) = false := by simpa using e
    simp [mgOf, List.lookup, this, e]
/-- a def of the text, as it stands -/
structure FnX (Pl : Addr) (h : Heap) (a : Addr) (i : Nat) : Prop where
  ap : addr0 a Pl
  at' : ∃ o dV pm c doc, h.get? a = some o ∧ o.cls = .type "function" ∧ o.data = .func (fdOf i dV pm (.ref c) doc) ∧ addr0 c Pl ∧ h.CodeRec (.ref c) (fnAt i).1 ∧
    (((fnAt i).2.1.defaults = [] ∧ dV = .none) ∨ ∃ T oT vs nT, dV = .ref T ∧ addr0 T Pl ∧ h.get? T = some oT ∧ oT.data = .seq vs.toArray nT ∧ ConstVals (fnAt i).2.1.defaults vs ∧ vs ≠ [])
theorem FnX.keepB {Pl : Addr} {h h' : Heap} {a : Addr} {i : Nat} (x : FnX Pl h a i) (k : KeepB Pl h h') : FnX Pl h' a i := by
  obtain ⟨⟨a1, a2⟩, o, dV, pm, c, doc, e1, e0, e2, ⟨c1, c2⟩, e3, e4⟩ := x
  refine ⟨⟨a1, a2⟩, o, dV, pm, c, doc, k _ _ a1 a2 e1, e0, e2, ⟨c1, c2⟩, e3.at fun o e => k _ _ c1 c2 e, ?_⟩
  rcases e4 with e4 | ⟨T, oT, vs, nT, d1, ⟨d2, d3⟩, d4, d5, d6⟩
  · exact .inl e4
  · exact .inr ⟨T, oT, vs, nT, d1, ⟨d2, d3⟩, k _ _ d2 d3 d4, d5, d6⟩
structure Tst (hb : Heap) (m₀ : Str → Option Value) (c Pl : Addr) (l : List (Str × Value)) (ds : List (Nat × Addr)) (ps : Array Value) (h : Heap) : Prop where
  main : h.Main (mgOf m₀ l) c Pl ps
  keep : KeepB Pl hb h
  fn : ∀ d ∈ ds, l.lookup (fnAt d.1).1 = some (.ref d.2) ∧ FnX Pl h d.2 d.1
section
variable {w : World} {A : Around} {s : Shared} {X : Value → Heap → Prop} {hb h : Heap} {m₀ : Str → Option Value} {c Pl F : Addr} {l : List (Str × Value)} {ds : List (Nat × Addr)} {ps : Array Value}
/-- a def at the top -/
theorem top_def {i : Nat} {pos : Pos} {Q : Flow → Heap → Prop} (S : Tst hb m₀ c Pl l ds ps h)
    (hkw : (fnAt i).2.1.kwonlyargs = []) (hkd : (fnAt i).2.1.kw_defaults = []) (hconst : ∀ e ∈ (fnAt i).2.1.defaults, e.isPlainConst = true) (hann0 : annTrees (fnAt i).2.1 none (mainEnv pw c F) = [])
    (hfree : ∀ x ∈ (fnAt i).2.2.2.names, x.2 ≠ .free) (hloc : pw.main.scope.names.lookup (fnAt i).1 = some .local)
    (hq : qualnameIn { scope := pw.main.scope, locals := mainGlobals, globals := mainGlobals, cells := [] } (fnAt i).1 (fnAt i).1 = (fnAt i).1)
    (hnew : ∀ d ∈ ds, (fnAt d.1).1 ≠ (fnAt i).1) (hnb : (fnAt i).1 ≠ "__builtins__") (hnf : codeAmong pos ps.toList = none)
    (q : ∀ a c' h', KeepB Pl h h' → Tst hb m₀ c Pl (((fnAt i).1, .ref a) :: l) ((i, a) :: ds) (ps ++ #[rawInt pos.line, rawInt pos.col, .ref c']) h' → Q .next h') :
    wpH (model pw w) s A (exec (.FunctionDef (fnAt i).1 (fnAt i).2.1 (fnAt i).2.2.1 [] none [] (fnAt i).2.2.2 none (fnAt i).1 pos) (mainEnv pw c F)) Q X h := by
  refine wpH_any fun tk => wpAny_defStmt0N (s := stt s h tk) (prog := pw) hkw hkd hconst hann0 hfree hloc hq S.main (fun a c' doc dV vs h' tk' ha hm hf hcv hD hcd htb keep => ⟨h', tk', rfl, q a c' h' (fun b o h1 h2 e => keep b o h1 h2 e) ?_⟩) hnb (by rfl) hnf
  dsimp only [stt] at ha hm hf hcv hD hcd keep
  have hP : ∀ x, h.objs.size ≤ x → addr0 x Pl := fun x hx => ⟨Nat.ne_of_gt (Nat.lt_of_lt_of_le S.main.code.lt.2 hx), Nat.ne_of_gt (Nat.lt_of_lt_of_le S.main.g.lt hx)⟩
  have kb : KeepB Pl h h' := fun b o h1 h2 e => keep b o h1 h2 e
  refine ⟨by rw [← mgOf_cons]; exact hm, S.keep.trans kb, fun d hd => ?_⟩
  rcases List.mem_cons.mp hd with rfl | hd
  · refine ⟨by simp, hP _ ha, _, dV, _, c', doc, hf, rfl, rfl, hP _ hcd.1, hcd.2, ?_⟩
    rcases hD with ⟨e1, e2⟩ | ⟨hv, T, e, hT, hg⟩
    · left
      refine ⟨?_, e2⟩
      subst e1
      cases he : (fnAt i).2.1.defaults with
      | nil => rfl
      | cons _ _ => rw [he] at hcv; exact hcv.elim
    · exact .inr ⟨T, _, vs, _, e, hP _ hT, hg, rfl, hcv, hv⟩
  · refine ⟨?_, (S.fn d hd).2.keepB kb⟩
    rw [List.lookup_cons]
    have : ((fnAt d.1).1 == (fnAt i).1) = false := by simpa using hnew d hd
    rw [this]
    exact (S.fn d hd).1
/-- storing a name at the top -/
theorem top_store {x : Str} {v : Value} {Q : Unit → Heap → Prop} (S : Tst hb m₀ c Pl l ds ps h) (hx : ∀ d ∈ ds, (fnAt d.1).1 ≠ x) (hnb : x ≠ "__builtins__") (hl : pw.main.scope.names.lookup x = some .local)
    (q : ∀ h', KeepB Pl h h' → Tst hb m₀ c Pl ((x, v) :: l) ds ps h' → Q () h') : wpH (model pw w) s A (storeName (mainEnv pw c F) x v) Q X h := by
  refine wpH_any fun tk => wpAny_storeName_local (s := stt s h tk) (env := mainEnv pw c F) hl S.main.g (fun h' hg' hs' => ⟨h', _, rfl, ?_⟩) (by rfl)
  dsimp only [stt, mainEnv] at hg' hs'
  have kb : KeepB Pl h h' := fun b o _ h2 e => (hs'.2 b h2).trans e
  refine q h' kb ⟨?_, S.keep.trans kb, fun d hd => ?_⟩
  · obtain ⟨bm, o, hbm, hne0, hneG, hneP, hbo, hrest⟩ := S.main.bmod
    refine ⟨by rw [← mgOf_cons]; exact hg', S.main.code.sameBut hs' (Nat.ne_of_gt S.main.low.1) (Nat.ne_of_gt S.main.low.2), S.main.low, bm, o, ?_, hne0, hneG, hneP, (hs'.2 _ hneG).trans hbo, hrest⟩
    rw [← mgOf_cons]
    simp only [Ne.symm hnb, if_false]; exact hbm
  · refine ⟨?_, (S.fn d hd).2.keepB kb⟩
    rw [List.lookup_cons]
    have : ((fnAt d.1).1 == x) = false := by simpa using hx d hd
    rw [this]
    exact (S.fn d hd).1
theorem Tst.keeps {h' : Heap} (S : Tst hb m₀ c Pl l ds ps h) (k : Keep h h') : Tst hb m₀ c Pl l ds ps h' :=
  ⟨⟨S.main.g.keeps k, S.main.code.keeps k, S.main.low, S.main.bmod.keeps k⟩, S.keep.trans (.of_keep k), fun d hd => ⟨(S.fn d hd).1, (S.fn d hd).2.keepB (.of_keep k)⟩⟩
end
end Mine
namespace Mine
open PySem PySem.W PyProof.Rows PySem.Calls
open Sem (wp)
theorem new_of {ds : List (Nat × Addr)} {js : List Nat} {x : Str} (h : ds.map (·.1) = js) (hn : ∀ j ∈ js, (fnAt j).1 ≠ x) : ∀ d ∈ ds, (fnAt d.1).1 ≠ x := fun d hd => hn d.1 (h ▸ List.mem_map_of_mem hd)
theorem cv8 {vs : List Value} (h : ConstVals (fnAt 8).2.1.defaults vs) : ∃ t1 t2, vs = [.int 0 t1, .int 256 t2, .bool true] := by
  match vs, h with
  | [_, _, _], ⟨⟨t1, e1⟩, ⟨t2, e2⟩, e3, _⟩ => exact ⟨t1, t2, by subst e1 e2; cases e3; rfl⟩
theorem cv3 {vs : List Value} (h : ConstVals (fnAt 3).2.1.defaults vs) : ∃ t1 t2 t3, vs = [.int 285 t1, .int 2 t2, .int 8 t3] := by
  match vs, h with
  | [_, _, _], ⟨⟨t1, e1⟩, ⟨t2, e2⟩, ⟨t3, e3⟩, _⟩ => exact ⟨t1, t2, t3, by subst e1 e2 e3; rfl⟩
theorem FnX.fnAt {Pl : Addr} {h : Heap} {a : Addr} {i : Nat} (x : FnX Pl h a i) : FnAt h a i := by
  obtain ⟨_, o, dV, pm, c, doc, e1, e0, e2, _, e3, e4⟩ := x
  refine ⟨o, dV, pm, c, doc, e1, e2, e3, fun hd => ?_⟩
  rcases e4 with ⟨_, e⟩ | ⟨T, oT, vs, nT, _, _, _, _, hc, hv⟩
  · exact e
  · rw [hd] at hc
    cases vs with
    | nil => exact absurd rfl hv
    | cons _ _ => exact hc.elim
def freeI : List Str := "int" :: freeNames
/-- what stands ahead of the top -/
structure Base (hb : Heap) (m₀ mb : Str → Option Value) (Pl : Addr) : Prop where
  b : hb.Ns builtinsNs mb
  blt : ∀ x : Str, x ≠ "__name__" → mb x = bootBuiltins x
  lim : hb.NoLimit
  free : ∀ x ∈ freeI, m₀ x = none
  pl : mainGlobals < Pl
section
variable {w : World} {A : Around} {s : Shared} {X : Value → Heap → Prop} {hb h : Heap} {m₀ mb : Str → Option Value} {c Pl F : Addr} {l : List (Str × Value)} {ds : List (Nat × Addr)} {ps : Array Value}
theorem Tst.gl (S : Tst hb m₀ c Pl l ds ps h) (Z : Base hb m₀ mb Pl) : Gl (mgOf m₀ l) mb h := by
  refine ⟨S.main.g, Z.b.at fun o e => S.keep _ _ (Nat.ne_of_lt (Nat.lt_trans (by decide) Z.pl)) (by decide) e, Z.blt, Z.lim.at fun o e => S.keep _ _ (Nat.ne_of_lt (Nat.lt_trans (by decide) Z.pl)) (by decide) e⟩
theorem top_blt {x : Str} {pos : Pos} {v : Value} {Q : Value → Heap → Prop} (S : Tst hb m₀ c Pl l ds ps h) (Z : Base hb m₀ mb Pl) (hx : x ∈ freeI) (hl : l.lookup x = none) (hv : bootBuiltins x = some v) (q : Q v h) (hn : x ≠ "__name__" := by decide) (hd : (x == ("__debug__" : Str)) = false := by decide) :
    wpH (model pw w) s A (eval (.Name x pos) (mainEnv pw c F)) Q X h := by
  have G := S.gl Z
  refine wpH_any fun tk => Name_module (env := mainEnv pw c F) rfl rfl (loadGlobal_builtin (s := stt s h tk) (env := mainEnv pw c F) G.g (by show (l.lookup x).or (m₀ x) = none; rw [hl, Z.free x hx]; rfl) G.b ((G.blt x hn).trans hv) ⟨h, tk, rfl, q⟩) hd
theorem top_glob {x : Str} {pos : Pos} {v : Value} {Q : Value → Heap → Prop} (S : Tst hb m₀ c Pl l ds ps h) (hl : l.lookup x = some v) (q : Q v h) (hd : (x == ("__debug__" : Str)) = false := by decide) :
    wpH (model pw w) s A (eval (.Name x pos) (mainEnv pw c F)) Q X h := by
  refine wpH_any fun tk => Name_module (env := mainEnv pw c F) rfl rfl (loadGlobal_global (s := stt s h tk) (env := mainEnv pw c F) S.main.g (by show (l.lookup x).or (m₀ x) = some v; rw [hl]; rfl) ⟨h, tk, rfl, q⟩) hd
theorem wpH_Assign_Tuple {env : Env} {elts k tpos value pos} {Q : Flow → Heap → Prop}
    (x : wpH (model pw w) s A (eval value env) (fun v h₁ => wpH (model pw w) s A (assign (.Tuple elts k tpos) env v) (fun _ => Q .next) X h₁) X h)
    (hs : swapsWithSole [.Tuple elts k tpos] value pos.line env = pure false := by rfl)
    (hw : swappedStores [.Tuple elts k tpos] value env = pure none := by rfl) :
    wpH (model pw w) s A (exec (.Assign [.Tuple elts k tpos] value pos) env) Q X h := by
  rw [exec_Assign]
  refine wpH_bind (wpH_standAt ?_)
  rw [hs]
  refine wpH_bind (wpH_pure ?_)
  rw [if_neg (by decide)]
  refine wpH_bind (wpH_post x fun v s₁ h₁ => ?_)
  rw [hw]
  refine wpH_bind (wpH_pure ?_)
  show wpH _ _ A (do assignAll v [assign (.Tuple elts k tpos) env]; pure .next) Q X s₁
  exact wpH_bind (wpH_post h₁ fun _ _ x => wpH_pure x)
theorem apart_of {la : Addr} {lg : Array UInt8} (S : Tst hb m₀ c Pl l ds ps h) (e : h.get? la = some (ba lg)) : addr0 la Pl := by
  refine ⟨fun z => ?_, fun z => ?_⟩
  · obtain ⟨_, _, _, _, _, _, _, _, _, op, _, _, _, _, _, _, _, e2, hd, _⟩ := S.main.code
    subst z
    rw [e] at e2; cases e2
    cases hd
  · obtain ⟨o, es, ep, e2, hd, _⟩ := S.main.g
    subst z
    rw [e] at e2; cases e2
    cases hd
set_option maxHeartbeats 0 in
theorem top_all {Q : Flow → Heap → Prop} (Z : Base hb m₀ mb Pl) (R : Room A 4) (S : Tst hb m₀ c Pl [] [] #[] h)
    (q : ∀ fa la ea lg ex l ps h', Md fa la ea lg ex (mgOf m₀ l) mb h' → Tst hb m₀ c Pl l [] ps h' → l.map (·.1) = [(fnAt 17).1, (fnAt 16).1, (fnAt 15).1, "__name__", "field_charac", "gf_exp", "gf_log", (fnAt 12).1, (fnAt 11).1, (fnAt 10).1, (fnAt 9).1, (fnAt 8).1, (fnAt 7).1, (fnAt 6).1, (fnAt 5).1, (fnAt 4).1, (fnAt 3).1, "xrange", "_bytearray", "__name__"] →
      FnX Pl h' (fa 17) 17 → Q .next h') :
    wpH (model pw w) s A (execs pw.main.body (mainEnv pw c F)) Q X h := by
  show wpH _ _ _ (execs (pw.main.body.drop 0) _) _ _ _
  conv in pw.main.body.drop 0 => whnf
  refine wpH_execs_cons ?_
  refine wpH_Assign_Name (wpH_any fun tk => Constant_str (s := stt s h tk) ⟨h, tk + 1, rfl, ?_⟩)
  refine top_store S (new_of (js := []) rfl (by decide +kernel)) (by decide +kernel) (by decide +kernel) fun h0 _ S0 => ?_
  refine wpH_execs_cons ?_
  refine wpH_Assign_Name (top_blt (v := .type "bytearray") S0 Z (by decide) (by rfl) (by decide +kernel) ?_)
  refine top_store S0 (new_of (js := []) rfl (by decide +kernel)) (by decide +kernel) (by decide +kernel) fun h1 _ S1 => ?_
  refine wpH_execs_cons ?_
  refine wpH_Assign_Name (top_blt (v := .type "range") S1 Z (by decide) (by rfl) (by decide +kernel) ?_)
  refine top_store S1 (new_of (js := []) rfl (by decide +kernel)) (by decide +kernel) (by decide +kernel) fun h2 _ S2 => ?_
  refine wpH_execs_cons ?_
  refine top_def (i := 3) S2 (by rfl) (by rfl) (by decide +kernel) (by kernel_rfl) (by decide +kernel) (by decide +kernel) (by kernel_rfl) (new_of (js := []) rfl (by decide +kernel)) (by decide +kernel) (by kernel_rfl) ?_
  intro a3 c3 h3 kk3 S3
  refine wpH_execs_cons ?_
  refine top_def (i := 4) S3 (by rfl) (by rfl) (by decide +kernel) (by kernel_rfl) (by decide +kernel) (by decide +kernel) (by kernel_rfl) (new_of (js := [3]) rfl (by decide +kernel)) (by decide +kernel) (by kernel_rfl) ?_
  intro a4 c4 h4 kk4 S4
  refine wpH_execs_cons ?_
  refine top_def (i := 5) S4 (by rfl) (by rfl) (by decide +kernel) (by kernel_rfl) (by decide +kernel) (by decide +kernel) (by kernel_rfl) (new_of (js := [4, 3]) rfl (by decide +kernel)) (by decide +kernel) (by kernel_rfl) ?_
  intro a5 c5 h5 kk5 S5
  refine wpH_execs_cons ?_
  refine top_def (i := 6) S5 (by rfl) (by rfl) (by decide +kernel) (by kernel_rfl) (by decide +kernel) (by decide +kernel) (by kernel_rfl) (new_of (js := [5, 4, 3]) rfl (by decide +kernel)) (by decide +kernel) (by kernel_rfl) ?_
  intro a6 c6 h6 kk6 S6
  refine wpH_execs_cons ?_
  refine top_def (i := 7) S6 (by rfl) (by rfl) (by decide +kernel) (by kernel_rfl) (by decide +kernel) (by decide +kernel) (by kernel_rfl) (new_of (js := [6, 5, 4, 3]) rfl (by decide +kernel)) (by decide +kernel) (by kernel_rfl) ?_
  intro a7 c7 h7 kk7 S7
  refine wpH_execs_cons ?_
  refine top_def (i := 8) S7 (by rfl) (by rfl) (by decide +kernel) (by kernel_rfl) (by decide +kernel) (by decide +kernel) (by kernel_rfl) (new_of (js := [7, 6, 5, 4, 3]) rfl (by decide +kernel)) (by decide +kernel) (by kernel_rfl) ?_
  intro a8 c8 h8 kk8 S8
  refine wpH_execs_cons ?_
  refine top_def (i := 9) S8 (by rfl) (by rfl) (by decide +kernel) (by kernel_rfl) (by decide +kernel) (by decide +kernel) (by kernel_rfl) (new_of (js := [8, 7, 6, 5, 4, 3]) rfl (by decide +kernel)) (by decide +kernel) (by kernel_rfl) ?_
  intro a9 c9 h9 kk9 S9
  refine wpH_execs_cons ?_
  refine top_def (i := 10) S9 (by rfl) (by rfl) (by decide +kernel) (by kernel_rfl) (by decide +kernel) (by decide +kernel) (by kernel_rfl) (new_of (js := [9, 8, 7, 6, 5, 4, 3]) rfl (by decide +kernel)) (by decide +kernel) (by kernel_rfl) ?_
  intro a10 c10 h10 kk10 S10
  refine wpH_execs_cons ?_
  refine top_def (i := 11) S10 (by rfl) (by rfl) (by decide +kernel) (by kernel_rfl) (by decide +kernel) (by decide +kernel) (by kernel_rfl) (new_of (js := [10, 9, 8, 7, 6, 5, 4, 3]) rfl (by decide +kernel)) (by decide +kernel) (by kernel_rfl) ?_
  intro a11 c11 h11 kk11 S11
  refine wpH_execs_cons ?_
  refine top_def (i := 12) S11 (by rfl) (by rfl) (by decide +kernel) (by kernel_rfl) (by decide +kernel) (by decide +kernel) (by kernel_rfl) (new_of (js := [11, 10, 9, 8, 7, 6, 5, 4, 3]) rfl (by decide +kernel)) (by decide +kernel) (by kernel_rfl) ?_
  intro a12 c12 h12 kk12 S12
  refine wpH_execs_cons ?_
  refine wpH_Assign_Tuple ?_
  have f3 := S12.fn (3, a3) (by simp)
  have f8 := S12.fn (8, a8) (by simp)
  obtain ⟨_, o3, dV3, pm3, cc3, doc3, x1, _, x2, _, x3, x4⟩ := f3.2
  obtain ⟨_, o8, dV8, pm8, cc8, doc8, y1, _, y2, _, y3, y4⟩ := f8.2
  rcases x4 with ⟨e, _⟩ | ⟨T3, oT3, vs3, nT3, rfl, _, x5, x6, x7, _⟩
  · exact absurd e (show ¬ (fnAt 3).2.1.defaults = [] by decide)
  rcases y4 with ⟨e, _⟩ | ⟨T8, oT8, vs8, nT8, rfl, _, y5, y6, y7, _⟩
  · exact absurd e (show ¬ (fnAt 8).2.1.defaults = [] by decide)
  obtain ⟨u1, u2, u3, rfl⟩ := cv3 x7
  obtain ⟨u4, u5, rfl⟩ := cv8 y7
  have G := S12.gl Z
  have M : Mi a8 T8 cc8 (mgOf m₀ _) mb h12 := ⟨G, by rfl, by rfl, by show (List.lookup _ _).or (m₀ _) = none; rw [Z.free _ (by decide)]; rfl, by rfl, o8, oT8, pm8, doc8, u4, u5, nT8, y1, y2, y3, y5, y6⟩
  refine wpH_Call (top_glob S12 f3.1 ?_)
  refine wpH_callWith_fn x2 (by show 0 ≤ 30; decide) rfl (wpH_spliced_nil ⟨x1, ?_⟩)
  refine con_init M (R.le (by decide)) x1 x2 x3 x5 x6 _ _ fun v hv kv hV => ?_
  obtain ⟨al, la, ea, lg, ex, tf, ml, rfl, z1, z2, z3, z4⟩ := hV _ Keep.rfl
  have Sv := S12.keeps kv
  rw [arm_assign_Tuple]
  refine wpH_bind (wpH_standAt ?_)
  unfold unpack
  refine wpH_bind (wpH_holding (wpH_any fun tk => unpackItems_list (s := stt s hv tk) (items := #[.ref la, .ref ea, .int 255 tf]) R.hd (liO_isList z1) fun h' x => ⟨h', tk, rfl, ?_⟩))
  have kx : Keep hv h' := fun b o e => x b o (Nat.ne_of_lt (Heap.lt_size e)) e
  have Sx := Sv.keeps kx
  show wpH _ _ A (do holding [.ref ea, .int 255 tf] (assign (.Name _ _) _ (.ref la)); do holding [.int 255 tf] (assign (.Name _ _) _ (.ref ea)); do holding [] (assign (.Name _ _) _ (.int 255 tf)); pure ()) _ _ _
  refine wpH_bind (wpH_holding ?_)
  rw [PySem.assign_Name]
  refine wpH_bind (wpH_standAt (wpH_bindName ?_))
  refine top_store Sx (new_of (js := [12, 11, 10, 9, 8, 7, 6, 5, 4, 3]) rfl (by decide +kernel)) (by decide +kernel) (by decide +kernel) fun g1 k1 T1 => ?_
  refine wpH_bind (wpH_holding ?_)
  rw [PySem.assign_Name]
  refine wpH_bind (wpH_standAt (wpH_bindName ?_))
  refine top_store T1 (new_of (js := [12, 11, 10, 9, 8, 7, 6, 5, 4, 3]) rfl (by decide +kernel)) (by decide +kernel) (by decide +kernel) fun g2 k2 T2 => ?_
  refine wpH_bind (wpH_holding ?_)
  rw [PySem.assign_Name]
  refine wpH_bind (wpH_standAt (wpH_bindName ?_))
  refine top_store T2 (new_of (js := [12, 11, 10, 9, 8, 7, 6, 5, 4, 3]) rfl (by decide +kernel)) (by decide +kernel) (by decide +kernel) fun g3 k3 T3 => wpH_pure ?_
  have al := apart_of Sx (kx _ _ z2)
  have ae := apart_of Sx (kx _ _ z3)
  have kg := (k1.trans k2).trans k3
  have hl3 := kg _ _ al.1 al.2 (kx _ _ z2)
  have he3 := kg _ _ ae.1 ae.2 (kx _ _ z3)
  refine wpH_execs_cons ?_
  refine wpH_Assign_Name (wpH_any fun tk => Constant_str (s := stt s g3 tk) ⟨g3, tk + 1, rfl, ?_⟩)
  refine top_store T3 (new_of (js := [12, 11, 10, 9, 8, 7, 6, 5, 4, 3]) rfl (by decide +kernel)) (by decide +kernel) (by decide +kernel) fun h14 k14 S14 => ?_
  refine wpH_execs_cons ?_
  refine top_def (i := 15) S14 (by rfl) (by rfl) (by decide +kernel) (by kernel_rfl) (by decide +kernel) (by decide +kernel) (by kernel_rfl) (new_of (js := [12, 11, 10, 9, 8, 7, 6, 5, 4, 3]) rfl (by decide +kernel)) (by decide +kernel) (by kernel_rfl) ?_
  intro a15 c15 h15 kk15 S15
  refine wpH_execs_cons ?_
  refine top_def (i := 16) S15 (by rfl) (by rfl) (by decide +kernel) (by kernel_rfl) (by decide +kernel) (by decide +kernel) (by kernel_rfl) (new_of (js := [15, 12, 11, 10, 9, 8, 7, 6, 5, 4, 3]) rfl (by decide +kernel)) (by decide +kernel) (by kernel_rfl) ?_
  intro a16 c16 h16 kk16 S16
  refine wpH_execs_cons ?_
  refine top_def (i := 17) S16 (by rfl) (by rfl) (by decide +kernel) (by kernel_rfl) (by decide +kernel) (by decide +kernel) (by kernel_rfl) (new_of (js := [16, 15, 12, 11, 10, 9, 8, 7, 6, 5, 4, 3]) rfl (by decide +kernel)) (by decide +kernel) (by kernel_rfl) ?_
  intro a17 c17 h17 kk17 S17
  refine wpH_execs_nil ?_
  have ke := ((k14.trans kk15).trans kk16).trans kk17
  have hl17 := ke _ _ al.1 al.2 hl3
  have he17 := ke _ _ ae.1 ae.2 he3
  have G17 := S17.gl Z
  let fa : Nat → Addr := fun i => ([(17, a17), (16, a16), (15, a15), (12, a12), (11, a11), (10, a10), (9, a9), (8, a8), (7, a7), (6, a6), (5, a5), (4, a4), (3, a3)] : List (Nat × Addr)).lookup i |>.getD 0
  refine q fa la ea lg ex _ _ h17 ⟨G17, fun i hi => ?_, ⟨by rfl, hl17⟩, ⟨by rfl, he17⟩, ⟨tf, by rfl⟩, by rfl, by rfl, fun x hx => ?_, z4⟩ ⟨S17.main, S17.keep, fun d hd => (nomatch hd)⟩ (by rfl) (S17.fn (17, a17) (by simp)).2
  · have key : ∀ a, (i, a) ∈ ([(17, a17), (16, a16), (15, a15), (12, a12), (11, a11), (10, a10), (9, a9), (8, a8), (7, a7), (6, a6), (5, a5), (4, a4), (3, a3)] : List (Nat × Addr)) → fa i = a → mgOf m₀ _ (fnAt i).1 = some (.ref (fa i)) ∧ FnAt h17 (fa i) i := fun a ha e => by
      obtain ⟨b1, b2⟩ := S17.fn (i, a) ha
      rw [e]
      refine ⟨?_, b2.fnAt⟩
      show (List.lookup _ _).or (m₀ _) = _
      rw [b1]; rfl
    simp only [defIx, List.mem_cons, List.not_mem_nil, or_false] at hi
    rcases hi with rfl | rfl | rfl | rfl | rfl | rfl | rfl | rfl | rfl | rfl | rfl
    · exact key a4 (by simp) rfl
    · exact key a5 (by simp) rfl
    · exact key a6 (by simp) rfl
    · exact key a7 (by simp) rfl
    · exact key a9 (by simp) rfl
    · exact key a10 (by simp) rfl
    · exact key a11 (by simp) rfl
    · exact key a12 (by simp) rfl
    · exact key a15 (by simp) rfl
    · exact key a16 (by simp) rfl
    · exact key a17 (by simp) rfl
  · show (List.lookup _ _).or (m₀ _) = none
    rw [Z.free x (List.mem_cons_of_mem _ hx)]
    simp only [freeNames, List.mem_cons, List.not_mem_nil, or_false] at hx
    rcases hx with rfl | rfl | rfl | rfl | rfl | rfl | rfl | rfl | rfl
    all_goals rfl
end
end Mine
namespace Mine
open PySem PySem.W PyProof.Rows PySem.Calls
open Sem (wp)
/-! ## From the logic to the run -/
theorem last_step {den : Code → Sem PySem.Fin} {prog : Program} {w : World} : ∀ {n : Nat} {s : Shared} {t : Thread} {o : Outcome} {s' : Shared}, runN den prog w n s t = .halted o s' → ∃ k s₁ t₁, runN den prog w k s t = .running s₁ t₁ ∧ step den prog w s₁ t₁ = .halt o s'
  | 0, _, _, _, _, h => by cases h
  | n + 1, s, t, o, s', h => by
    simp only [runN] at h
    cases hs : step den prog w s t with
    | go s₂ t₂ =>
      rw [hs] at h
      obtain ⟨k, s₁, t₁, e1, e2⟩ := last_step h
      exact ⟨k + 1, s₁, t₁, by simp only [runN, hs]; exact e1, e2⟩
    | halt o' s₂ =>
      rw [hs] at h
      injection h with h1 h2
      subst h1 h2
      exact ⟨0, s, t, rfl, hs⟩
theorem through_of {den : Code → Sem PySem.Fin} {prog : Program} {w : World} {s s' : Shared} {t : Thread} {f : Flow} (h : step den prog w s t = .halt (.done f) s') : through t = true := by
  obtain ⟨heap, gens, drawn, toks, os⟩ := s
  obtain ⟨cur, code, pos, stack⟩ := t
  cases cur <;> simp only [step, finish] at h <;> (repeat' split at h) <;> simp_all [through]
theorem clean_caller : Clean (⟨.builtin "claim.caller" {}, none, none, [], none⟩ : Ctx) := ⟨by show nodec _ = true; decide +kernel, fun x hx => (nomatch hx)⟩
theorem run_of {prog : Program} {w : World} {t : Sem PySem.Fin} {s : Shared} {P : Shared → Prop} (hz : s.asleep)
    (h : wpC (model prog w) callerA t (fun fin s' => fin = .done (.ret .none) ∧ P s' ∧ s'.gens = #[]) (fun _ _ => False) s) :
    ∃ n t' s₁, schedN (denote table) prog w n (.single s ⟨t, .builtin "claim.caller" {}, default, []⟩) = .running (.single s₁ t') ∧ through t' = true ∧ s₁.heap.life = s.heap.life ∧ P s₁ ∧ s₁.gens = #[] := by
  have hw : Sem.wp (model prog w) ⟨.builtin "claim.caller" {}, none, none, [], none⟩ t (Sem.finPost (model prog w) ⟨.builtin "claim.caller" {}, none, none, [], none⟩ fun r s' => (r = .ok (.ret .none) ∧ P s' ∧ s'.gens = #[]) ∧ leftWithCleanup s'.gens = false)
      (fun e _ s' => ((Except.error e : Result) = .ok (.ret .none) ∧ P s' ∧ s'.gens = #[]) ∧ leftWithCleanup s'.gens = false) default s := by
    refine Sem.wp_mono _ _ t (fun fin p' s' h' => ?_) (fun _ _ _ h' => h'.elim) default s (h _ default caller_in clean_caller)
    obtain ⟨rfl, hP, hg⟩ := h'
    exact ⟨⟨rfl, hP, hg⟩, by rw [hg]; simp [leftWithCleanup]⟩
  obtain ⟨n, r, s', hn, rfl, hP, hg⟩ := (wp_iff_halts (M := model prog w) t (fun r s' => r = .ok (.ret .none) ∧ P s' ∧ s'.gens = #[]) default s).mp hw
  obtain ⟨s'', hr, hf, hc⟩ := runNI_real _ _ _ hn (outcomeOf_ends _)
  have hr : runN (denote table) prog w n s ⟨t, .builtin "claim.caller" {}, default, []⟩ = .halted (outcomeOf (.ok (.ret .none))) s'' := hr
  obtain rfl := Shared.eq_of_forget_eq hf hg
  obtain ⟨k, s₁, t₁, e1, e2⟩ := last_step hr
  have hs := step_halt_same _ _ _ _ _ _ _ e2
  subst hs
  have hne : ∀ k s₂, runN (denote table) prog w k s ⟨t, .builtin "claim.caller" {}, default, []⟩ ≠ .halted (.unsupported "lifetime:generator-with-cleanup-left-suspended") s₂ := by
    intro k s₂ hk
    have a := runN_mono (denote table) prog w n k _ _ _ _ hr
    have b := runN_mono (denote table) prog w k n _ _ _ _ hk
    rw [Nat.add_comm, b] at a
    injection a with a1 _
    cases a1
  refine ⟨k, t₁, s'', ?_, through_of e2, runN_life_running e1, hP, hg⟩
  exact (schedN_eq_runN _ _ _ s _ hz ⟨hc, hne⟩ k).trans (congrArg Run.lift e1)
/-! ## The boot -/
theorem boot_main (P : Params) : (boot_heap P).isNs mainGlobals = true := by kernel_rfl
theorem boot_bns (P : Params) : (boot_heap P).isNs builtinsNs = true := by kernel_rfl
theorem boot_sns (P : Params) : (boot_heap P).isNs cStatics = true := by kernel_rfl
theorem boot_view (P : Params) : (boot_heap P).bltView = bltViewBooted := by kernel_rfl
theorem boot_static (P : Params) (key : Str) : staticOf (boot_heap P) key = none := by kernel_rfl
theorem boot_lim (P : Params) : (boot_heap P).nsMap cStatics "sys.recursionlimit" = none := by kernel_rfl
theorem boot_keys (P : Params) : ((boot_heap P).nsKeys mainGlobals).all (fun k => startupNames.contains k) = true := by kernel_rfl
theorem boot_free (P : Params) : freeI.all (fun x => ((boot_heap P).nsMap mainGlobals x).isNone) = true := by kernel_rfl
theorem boot_bm (P : Params) : (boot_heap P).nsMap mainGlobals "__builtins__" = some (.ref 4) := by kernel_rfl
theorem boot_4 (P : Params) : (boot_heap P).get? 4 = some { cls := .type "module", dict := some builtinsNs } := by kernel_rfl
theorem boot_size (P : Params) : Nat.ble 5 (boot_heap P).objs.size = true := by kernel_rfl
theorem boot_names {P : Params} {x : Str} {v : Value} (h : (boot_heap P).nsMap mainGlobals x = some v) : x ∈ startupNames := by
  by_cases hk : x ∈ (boot_heap P).nsKeys mainGlobals
  · have := List.all_eq_true.mp (boot_keys P) x hk
    exact List.contains_iff_mem.mp this
  · rw [Heap.nsMap_none hk] at h; cases h
theorem boot_base (P : Params) {Pl : Addr} (h : mainGlobals < Pl) : Base (boot_heap P) ((boot_heap P).nsMap mainGlobals) ((boot_heap P).nsMap builtinsNs) Pl :=
  ⟨.of_isNs (boot_bns P), Heap.of_bltView (boot_bns P) (boot_view P), ⟨_, .of_isNs (boot_sns P), boot_lim P⟩, fun x hx => by
    have := List.all_eq_true.mp (boot_free P) x hx
    simpa using this, h⟩
end Mine
namespace Mine
open PySem PySem.W PyProof.Rows PySem.Calls
open Sem (wp)
section
variable {w : World}
theorem lookup_keys {l : List (Str × Value)} {x : Str} {v : Value} (h : l.lookup x = some v) : x ∈ l.map (·.1) := by
  induction l with
  | nil => cases h
  | cons p r ih =>
    obtain ⟨y, u⟩ := p
    rw [List.lookup_cons] at h
    by_cases e : x = y
    · subst e; exact List.mem_cons_self ..
    · have : (x == y) = false := by simpa using e
      rw [this] at h
      exact List.mem_cons_of_mem _ (ih h)
theorem lookup_none {l : List (Str × Value)} {x : Str} (h : x ∉ l.map (·.1)) : l.lookup x = none := by
  cases e : l.lookup x with
  | none => rfl
  | some v => exact absurd (lookup_keys e) h
def topKeys : List Str := [(fnAt 17).1, (fnAt 16).1, (fnAt 15).1, "__name__", "field_charac", "gf_exp", "gf_log", (fnAt 12).1, (fnAt 11).1, (fnAt 10).1, (fnAt 9).1, (fnAt 8).1, (fnAt 7).1, (fnAt 6).1, (fnAt 5).1, (fnAt 4).1, (fnAt 3).1, "xrange", "_bytearray", "__name__"]
theorem keys_bound : topKeys.all (fun k => pw.boundNames.contains k) = true := by decide +kernel
theorem keys_laid : laidNames.all (fun k => !topKeys.contains k) = true := by decide +kernel
theorem keys_blt : topKeys.contains "__builtins__" = false := by decide +kernel
structure TopEnd (h₀ : Heap) (fa : Nat → Addr) (la ea Pl c : Addr) (lg ex : Array UInt8) (l : List (Str × Value)) (ps : Array Value) (h' : Heap) : Prop where
  md : Md fa la ea lg ex (mgOf (h₀.nsMap mainGlobals) l) (h₀.nsMap builtinsNs) h'
  main : h'.Main (mgOf (h₀.nsMap mainGlobals) l) c Pl ps
  keep : ∀ b o, b ≠ mainGlobals → h₀.get? b = some o → h'.get? b = some o
  keys : l.map (·.1) = topKeys
  law : FnX Pl h' (fa 17) 17
theorem room_caller (n : Nat) (hn : n ≤ 5) (e : Env) : Room (callerA.deeper e) n := by
  have h5 : 1 + claimMargin + 1 + 5 < recursionLimit := by decide
  refine ⟨?_, rfl, ?_, rfl⟩
  · show 1 + claimMargin + 1 + n < recursionLimit
    omega
  · show 4 + 3 + 3 * n + 200 < 9900
    omega
theorem top_wp {s : Shared} {P : Params} : wpH (model pw w) s callerA (topStub pw).cur (fun fin h' => fin = .done (.ret .none) ∧ ∃ fa la ea Pl c lg ex l ps, TopEnd (boot_heap P) fa la ea Pl c lg ex l ps h') noX (boot_heap P) := by
  have g0 : (boot_heap P).Ns mainGlobals ((boot_heap P).nsMap mainGlobals) := .of_isNs (boot_main P)
  show wpH _ _ _ (do
    let code ← moduleCode pw.main
    let frame ← newBodyFrame code mainNs mainNs
    let _ ← run (.body (behindTheImports pw) { scope := pw.main.scope, locals := mainNs, globals := mainNs, cells := [], code, frame := some frame })
    ret .none) _ _ _
  refine wpH_bind (wpH_any fun tk => wpAny_moduleCode (s := stt s (boot_heap P) tk) fun c Pl h₁ tk' k₁ hc hP hcode => ⟨h₁, tk', rfl, ?_⟩)
  dsimp only [stt] at k₁ hc hP
  refine wpH_bind ?_
  unfold newBodyFrame
  refine wpH_bind (wpH_any fun tk => wpAny_nsGet (s := stt s h₁ tk) (g0.keeps k₁) ⟨h₁, tk, rfl, ?_⟩)
  refine wpH_any fun tk => wpAny_alloc (s := stt s h₁ tk) ⟨_, tk, rfl, ?_⟩
  dsimp only [stt]
  generalize hob : ({ cls := Value.type "frame", slots := _ } : Obj) = ob
  have k₂ : Keep (boot_heap P) (h₁.push ob) := fun b o e => Heap.get?_push_of_some _ (k₁ _ _ e)
  have hbe : behindTheImports pw = pw.main.body := by kernel_rfl
  rw [hbe]
  refine wpH_bind (wpH_run ?_)
  rw [Around.mark_none]
  have lowS : mainGlobals < (boot_heap P).objs.size := g0.lt
  have hlP : mainGlobals < Pl := Nat.lt_of_lt_of_le lowS hP
  have hlc : mainGlobals < c := Nat.lt_of_lt_of_le lowS hc
  have h4P : (4 : Addr) ≠ Pl := Nat.ne_of_lt (Nat.lt_of_lt_of_le (Heap.lt_size (boot_4 P)) hP)
  have e0 : mgOf ((boot_heap P).nsMap mainGlobals) [] = (boot_heap P).nsMap mainGlobals := by funext x; simp [mgOf]
  have Z : Base (h₁.push ob) ((boot_heap P).nsMap mainGlobals) ((boot_heap P).nsMap builtinsNs) Pl := by
    obtain ⟨b1, b2, b3, b4, b5⟩ := boot_base P hlP
    exact ⟨b1.keeps k₂, b2, b3.keeps k₂, b4, b5⟩
  have S : Tst (h₁.push ob) ((boot_heap P).nsMap mainGlobals) c Pl [] [] #[] (h₁.push ob) := by
    refine ⟨⟨by rw [e0]; exact g0.keeps k₂, hcode.push _, ⟨hlc, hlP⟩, 4, _, ?_, by decide, by decide, h4P, k₂ _ _ (boot_4 P), rfl, rfl, rfl⟩, KeepB.rfl, fun d hd => (nomatch hd)⟩
    rw [e0]; exact boot_bm P
  refine codeH_of_tree ?_
  show wpH _ _ (callerA.deeper (mainEnv pw c h₁.objs.size)) (do blockStart pw.main.body (mainEnv pw c h₁.objs.size); return PySem.Fin.done (← (execs pw.main.body (mainEnv pw c h₁.objs.size)).onRaise (leaving (mainEnv pw c h₁.objs.size)))) _ _ _
  have hb : blockStart pw.main.body (mainEnv pw c h₁.objs.size) = pure () := by
    unfold blockStart
    rw [show hasAnns pw.main.body = false by kernel_rfl, show docOf pw.main.body = none by kernel_rfl]
    cases interactive (mainEnv pw c h₁.objs.size) <;> rfl
  rw [hb]
  refine wpH_bind (wpH_pure (wpH_bind (wpH_onRaise (wpH_noX ?_))))
  refine top_all Z (room_caller 4 (by decide) _) S fun fa la ea lg ex l ps h' D T hkeys hlaw => wpH_pure ?_
  refine wpH_pure ⟨rfl, fa, la, ea, Pl, c, lg, ex, l, ps, D, T.main, fun b o hbG e => ?_, hkeys, hlaw⟩
  exact T.keep b o (Nat.ne_of_lt (Nat.lt_of_lt_of_le (Heap.lt_size e) hP)) hbG (k₂ _ _ e)
theorem head {s₀ : Shared} (hh : s₀.heap = boot_heap w.params) (hg : s₀.gens = #[]) (hz : s₀.asleep) :
    ∃ s₁ fa la ea Pl c lg ex l ps, TopRan pw w s₀ s₁ ∧ s₁.gens = #[] ∧ s₁.asleep ∧ s₁.os = s₀.os ∧ TopEnd (boot_heap w.params) fa la ea Pl c lg ex l ps s₁.heap := by
  have h1 := top_wp (w := w) (s := s₀) (P := w.params) s₀.toks
  have hs : stt s₀ (boot_heap w.params) s₀.toks = s₀ := by rw [← hh]; rfl
  rw [hs] at h1
  obtain ⟨n, t', s₁, r1, r2, r3, ⟨h', tk', rfl, fa, la, ea, Pl, c, lg, ex, l, ps, T⟩, r5⟩ := run_of (P := fun s' => ∃ h' tk', s' = stt s₀ h' tk' ∧ ∃ fa la ea Pl c lg ex l ps, TopEnd (boot_heap w.params) fa la ea Pl c lg ex l ps h') hz
    (wpC_mono h1 (fun fin s' ⟨h', tk', e, a, b⟩ => ⟨a, ⟨h', tk', e, b⟩, by rw [e]; exact hg⟩) fun _ _ ⟨_, _, _, z⟩ => z)
  refine ⟨stt s₀ h' tk', fa, la, ea, Pl, c, lg, ex, l, ps, ?_, r5, Shared.asleep_of_life r3 hz, rfl, T⟩
  have kB : ∀ b o, b ≠ mainGlobals → s₀.heap.get? b = some o → h'.get? b = some o := fun b o hb e => T.keep b o hb (hh ▸ e)
  obtain ⟨oS, hoS⟩ : ∃ o, (boot_heap w.params).get? cStatics = some o := by
    obtain ⟨o, _, _, e, _⟩ := Heap.Ns.of_isNs (boot_sns w.params); exact ⟨o, e⟩
  obtain ⟨oB, hoB⟩ : ∃ o, (boot_heap w.params).get? builtinsNs = some o := by
    obtain ⟨o, _, _, e, _⟩ := Heap.Ns.of_isNs (boot_bns w.params); exact ⟨o, e⟩
  have st : ∀ key, staticOf h' key = staticOf (boot_heap w.params) key := fun key => by
    unfold staticOf
    rw [hoS, T.keep _ _ (by decide) hoS]
  have bt : ∀ x, builtinOf h' x = builtinOf (boot_heap w.params) x := fun x => by
    unfold builtinOf
    rw [hoB, T.keep _ _ (by decide) hoB]
  have gl : ∀ x, globalOf h' x = mgOf ((boot_heap w.params).nsMap mainGlobals) l x := Claim2Try.globalOf_of_ns T.main.g
  have gl0 : ∀ x, globalOf s₀.heap x = (boot_heap w.params).nsMap mainGlobals x := fun x => by rw [hh]; exact Pin.globalOf_eq (boot_main _) x
  have notin : ∀ x, topKeys.contains x = false → globalOf h' x = (boot_heap w.params).nsMap mainGlobals x := fun x hx => by
    rw [gl]
    show (l.lookup x).or _ = _
    rw [lookup_none (by rw [T.keys]; intro hm; rw [List.contains_iff_mem.mpr hm] at hx; cases hx)]
    rfl
  refine ⟨⟨n, t', r1, r2⟩, r3, Shared.rest_eq rfl, fun b o hb hn => kB b o (fun z => hn (.inl z)) hb, fun key v hv => ?_, fun key => .inl ?_, Pin.keysAreStrs_of_ns T.main.g, fun x hx => ?_, ?_, fun g hg' => ?_, fun x v hx => ?_, fun x hx => ?_⟩
  · have : staticOf h' key = some v := hv
    rw [st, boot_static] at this; cases this
  · show staticOf h' key = staticOf s₀.heap key
    rw [st, hh]
  · exact (bt x).trans ((Pin.builtinOf_eq (boot_bns _) x).trans (Heap.of_bltView (boot_bns _) (boot_view _) x hx))
  · exact ⟨4, _, (notin _ keys_blt).trans (boot_bm _), T.keep _ _ (by decide) (boot_4 _), rfl, rfl⟩
  · rw [show (stt s₀ h' tk').gens = s₀.gens from rfl, hg] at hg'
    simp at hg'
  · have hx : globalOf h' x = some v := hx
    rw [gl] at hx
    cases hl : l.lookup x with
    | some u =>
      have := lookup_keys hl
      rw [T.keys] at this
      exact .inr (List.contains_iff_mem.mp (List.all_eq_true.mp keys_bound x this))
    | none =>
      have hx' : (l.lookup x).or ((boot_heap w.params).nsMap mainGlobals x) = some v := hx
      rw [hl] at hx'
      exact .inl (boot_names hx')
  · show globalOf h' x = globalOf s₀.heap x
    rw [gl0]
    exact notin x (by have := List.all_eq_true.mp keys_laid x hx; simpa using this)
end
end Mine
namespace Mine
open PySem PySem.W PyProof.Rows PySem.Calls
open Sem (wp)
/-! ## The call of the law, and the whole -/
theorem thread_ends_C {prog : Program} {w : World} {t : Sem PySem.Fin} {s : Shared} {R : Result → Shared → Prop} (hreg : s.asleep)
    (h : wpC (model prog w) callerA t (fun fin s' => ∃ f, fin = .done f ∧ (R (.ok f) s' ∧ leftWithCleanup s'.gens = false)) (fun e s' => R (.error e) s' ∧ leftWithCleanup s'.gens = false) s) :
    ∃ n r s' s'', runN (denote table) prog w n s ⟨t, .builtin "claim.caller" {}, default, []⟩ = .halted (outcomeOf r) s' ∧
      schedN (denote table) prog w n (.single s ⟨t, .builtin "claim.caller" {}, default, []⟩) = .halted (outcomeOf r) s' ∧ s'.forget = s''.forget ∧ R r s'' := by
  have hw : Sem.wp (model prog w) ⟨.builtin "claim.caller" {}, none, none, [], none⟩ t (Sem.finPost (model prog w) ⟨.builtin "claim.caller" {}, none, none, [], none⟩ fun r s' => R r s' ∧ leftWithCleanup s'.gens = false)
      (fun e _ s' => R (.error e) s' ∧ leftWithCleanup s'.gens = false) default s := by
    refine Sem.wp_mono _ _ t (fun fin p' s' h' => ?_) (fun _ _ _ h' => h') default s (h _ default caller_in clean_caller)
    obtain ⟨f, rfl, hf⟩ := h'
    exact hf
  obtain ⟨n, r, s₁, s₂, hs, hn, hfo, hR⟩ := wp_halts_full (M := model prog w) (R := R) hreg hw
  exact ⟨n, r, s₂, s₁, hn, hs, hfo, hR⟩
abbrev lw : OpenLaw := PySem.Challenge.rw_md0024_01
abbrev cl : ClaimW := lw.row.toRowW.claim
theorem callFrom_C {w : World} {s : Shared} {free : Addr → Prop} {gens : Prop} {kept : Heap → Prop} (hz : s.asleep) (hgens : s.gens = #[]) (hk : ∀ h, kept h)
    (hspec : ∀ args, cl.pre args = true → WData.layableAll args = true → ∀ ord : List DictEntry → List DictEntry, (∀ l, (ord l).Perm l) →
      ∃ vs s₁, layAllW cl.records (classAt s.heap) w.params ord args s = some (vs, s₁) ∧
        wpC (model cl.prog w) callerA (callStub lw.row.name vs).cur (fun fin s' => ∃ f, fin = .done f ∧ (cl.Ends s args vs s₁ (.ok f) s' ∧ s'.os = s.os ∧ AllBare s'.gens)) (fun e s' => cl.Ends s args vs s₁ (.error e) s' ∧ s'.os = s.os ∧ AllBare s'.gens) s₁) :
    cl.CallFrom (callStub lw.row.name) w free gens kept s := by
  intro args hpre hlay ord hord
  obtain ⟨vs, s₁, hlaid, hcode⟩ := hspec args hpre hlay ord hord
  have hal := layAllW_rest _ _ _ hlaid
  obtain ⟨k, r, s', s'', hrun, hsched, hfo, hcase, hos⟩ := thread_ends_C (prog := cl.prog) (w := w) (t := (callStub lw.row.name vs).cur) (s := s₁)
    (R := fun r s' => cl.Ends s args vs s₁ r s' ∧ s'.os = s.os) (Shared.asleep_of_life hal.2.2.2 hz)
    (wpC_mono hcode (by
      rintro fin s' ⟨f, e, h1, h2, h3⟩
      exact ⟨f, e, ⟨h1, h2⟩, leftWithCleanup_false_of_bare h3⟩) (by
      rintro e s' ⟨h1, h2, h3⟩
      exact ⟨⟨h1, h2⟩, leftWithCleanup_false_of_bare h3⟩))
  obtain ⟨eh, _, _, eo, _⟩ := Shared.forget_eq hfo
  have hcase := hcase.congr eh
  rw [← eo] at hos
  have hlife : s'.heap.life = s.heap.life := (runN_life _ _ _ hrun).trans hal.2.2.2
  refine ⟨vs, s₁, hlaid, k, _, s', hsched, ?_, (fun _ i x hx => by rw [hgens] at hx; simp at hx), hk _, by rw [hlife], Shared.rest_eq hos⟩
  rcases hcase with ⟨v, rfl, d1, d2, d3, d4, d5⟩ | ⟨e, ob, cls, rfl, d1, d2, d3, d4, d5⟩
  · exact .inl ⟨v, rfl, d1, d2, d3, fun b o y _ => d4 b o y, d5⟩
  · exact .inr ⟨e, ob, cls, rfl, d1, d2, d3, d4, fun b o y _ => d5 b o y⟩
theorem ints_of_reads {R : WRecords} {c : Str → Option Addr} {h : Heap} : ∀ {vs : List Value} {xs : List WData} {as : List Addr}, ReadsAllW R c h vs xs as → WShape.hasItems R xs .int = true → ∃ ns : List Int, IntsAre vs ns ∧ ns.length = xs.length
  | [], [], _, _, _ => ⟨[], .nil, rfl⟩
  | _ :: _, [], _, h, _ => by cases h
  | [], _ :: _, _, h, _ => by cases h
  | v :: vs, d :: ds, as, h, hi => by
    obtain ⟨h1, h2⟩ : WShape.has R d .int = true ∧ WShape.hasItems R ds .int = true := by simpa [WShape.hasItems] using hi
    obtain ⟨i, rfl⟩ := hasW_int h1
    cases h with
    | cons hd hr =>
      cases hd with
      | int _ t =>
        obtain ⟨ns, a, b⟩ := ints_of_reads hr h2
        exact ⟨i :: ns, .cons i t a, by simp [b]⟩
theorem pre_parts {args : List WData} (h : cl.pre args = true) : ∃ xs, args = [.list xs] ∧ WShape.hasItems [] xs .int = true ∧ xs.length ≤ 63 := by
  obtain ⟨h1, h2⟩ := Bool.and_eq_true_iff.mp h
  obtain ⟨d, r, rfl, hd, hr⟩ := hasAllW_cons h1
  obtain rfl := hasAllW_nil hr
  obtain ⟨xs, rfl, hx⟩ := hasW_list hd
  refine ⟨xs, rfl, hx, ?_⟩
  have h3 : (WTm.and (.not (.lt (.lit (.int 63)) (.len (.arg 0)))) (.lit (.bool true))).holds [] { args := [.list xs] } = true := h2
  have e1 : WTm.value [] (.not (.lt (.lit (.int 63)) (.len (.arg 0)))) { args := [.list xs] } = some (.bool (!decide ((63 : Int) < (xs.length : Int)))) := by rfl
  by_cases hlt : (63 : Int) < (xs.length : Int)
  · rw [decide_eq_true hlt] at e1
    have e2 : WTm.value [] (WTm.and (.not (.lt (.lit (.int 63)) (.len (.arg 0)))) (.lit (.bool true))) { args := [.list xs] } = some (.bool false) := by
      show (match WTm.value [] (.not (.lt (.lit (.int 63)) (.len (.arg 0)))) { args := [.list xs] } with
        | some (WData.bool false) => some (WData.bool false)
        | some (WData.bool true) => (match WTm.value [] (.lit (.bool true)) { args := [.list xs] } with
          | some (WData.bool x) => some (WData.bool x)
          | _ => none)
        | _ => none) = _
      rw [e1]; rfl
    unfold WTm.holds at h3
    rw [e2] at h3
    cases h3
  · omega
theorem post_true (xs : List WData) : cl.post [.list xs] (.bool true) [.list xs] = true := by kernel_rfl
theorem law_def : pw.theDef "law" = some ((fnAt 17).2.1, (fnAt 17).2.2.1, (fnAt 17).2.2.2) := by kernel_rfl
theorem whole : lw.row.wellSaid = true → lw.row.Holds := fun said => by
  have hw : lw.row.toRowW.promised := ⟨[.list []], by decide +kernel, by decide +kernel⟩
  refine ⟨said, hw, ⟨⟨rfl, rfl, rfl, rfl, rfl, by decide +kernel⟩, by decide +kernel, rfl⟩, hw.witness, fun w => ?_⟩
  have hop := boot_open (p := pw) (N := 600) (by kernel_rfl) (by decide) (fun s => fenceModules_id pw (by kernel_rfl) s) w
  rw [← table_eq_tree] at hop
  obtain ⟨s₀, h2, h3⟩ := Option.map_eq_some_iff.mp hop
  obtain ⟨s, h4, h5⟩ := Option.bind_eq_some_iff.mp h2
  obtain ⟨hh, hg, _⟩ : s₀.heap = boot_heap w.params ∧ s₀.gens = Array.mk [] ∧ True := by
    have := h3
    simp only [Prod.mk.injEq] at this
    exact ⟨this.1, this.2.1, trivial⟩
  have A := AfterImport.of_importEnds h4
  refine ⟨⟨s, A⟩, fun s' hs' => ?_⟩
  obtain rfl : s' = s := AfterImport.unique hs' A
  have z : s₀.asleep := Shared.asleep_of_life (fence_lifeW h5) A.life
  obtain ⟨s₁, fa, la, ea, Pl, c, lg, ex, l, ps, TR, hg1, hz1, hos1, T⟩ := head (w := w) hh hg z
  refine ⟨s₀, h5, hg, s₁, TR, fun n hn => ?_, fun x hx => (nomatch hx), fun x hx => (nomatch hx), ?_⟩
  · obtain rfl : n = "law" := by
      have hn' : n ∈ [("law" : Str)] := hn
      simpa using hn'
    obtain ⟨b1, _⟩ := T.md.fn 17 (by decide)
    obtain ⟨_, o, dV, pm, c', doc, e1, _, e2, _, _, e4⟩ := T.law
    have hdV : dV = .none := by
      rcases e4 with ⟨_, e⟩ | ⟨_, _, vs, _, _, _, _, _, hc, hv⟩
      · exact e
      · have hc' : ConstVals [] vs := hc
        cases vs with
        | nil => exact absurd rfl hv
        | cons _ _ => exact hc'.elim
    subst hdV
    exact ⟨fa 17, o, _, _, _, _, (Claim2Try.globalOf_of_ns T.main.g _).trans b1, e1, e2, law_def, rfl, rfl, rfl, rfl, rfl, rfl, rfl, rfl, .inl ⟨rfl, rfl⟩, [], rfl, .inl ⟨rfl, rfl⟩⟩
  · refine callFrom_C hz1 hg1 (fun h' q => by cases q) fun args hpre hlay ord hord => ?_
    obtain ⟨xs, rfl, hxi, hxl⟩ := pre_parts hpre
    obtain ⟨⟨vs, s₂⟩, hlaid⟩ := Option.isSome_iff_exists.mp (layAllW_isSome (R := cl.records) (cl := classAt s₁.heap) (P := w.params) (ord := ord) (fun c hc => (nomatch hc)) [.list xs] [.list .int] s₁ (pre_splitW hpre).1)
    have keeps := layAllW_keeps _ _ _ hlaid
    have hal := layAllW_rest _ _ _ hlaid
    obtain ⟨as, hrd, hin, hold⟩ := reads_layAllW hord _ _ _ hlaid hlay s₂.heap (fun _ _ e => e)
    have L : Laid cl.records w s₁ s₂ [.list xs] vs as := ⟨⟨ord, hord, hlaid⟩, hrd, hin, hold, keeps, hal.1.trans hg1, hal.2.2.1⟩
    refine ⟨vs, s₂, hlaid, ?_⟩
    obtain ⟨a, rfl, ns, hla, hnl⟩ : ∃ a, vs = [.ref a] ∧ ∃ ns, LAh s₂.heap a ns ∧ ns.length = xs.length := by
      cases hrd with
      | cons hd hr =>
        cases hr
        cases hd with
        | list e1 e2 e3 e4 =>
          obtain ⟨ns, i1, i2⟩ := ints_of_reads e4 hxi
          exact ⟨_, rfl, ns, ⟨_, ⟨_, e1, e2, _, by simpa using e3⟩, i1⟩, i2⟩
    have D := T.md.keeps keeps
    have g2 := T.main.g.keeps keeps
    have hcon := con_law (prog := pw) (w := w) (s := s₂) (A := callerA) D ⟨by have h6 : 1 + claimMargin + 5 < recursionLimit := by decide
                                                                              exact h6, rfl, by decide, rfl⟩ rfl hla (by omega)
    have hwp : wpH (model pw w) s₂ callerA (callStub lw.row.name [.ref a]).cur (fun fin h' => fin = .done (.ret (.bool true)) ∧ Keep s₂.heap h') noX s₂.heap := by
      show wpH _ _ _ (do match ← nsGet mainNs "law" with | some f => do ret (← PySem.call f [.ref a]) | none => unsupported "claim.caller:no-such-global") _ _ _
      refine wpH_bind (wpH_any fun tk => wpAny_nsGet (s := stt s₂ s₂.heap tk) g2 ⟨_, tk, rfl, ?_⟩)
      rw [show mgOf ((boot_heap w.params).nsMap mainGlobals) l "law" = some (.ref (fa 17)) from (T.md.fn 17 (by decide)).1]
      refine wpH_bind (hcon _ _ fun v h' k hv => wpH_pure ⟨?_, k⟩)
      obtain rfl := hv _ Keep.rfl
      rfl
    have hs2 : stt s₂ s₂.heap s₂.toks = s₂ := rfl
    have hC := hwp s₂.toks
    rw [hs2] at hC
    refine wpC_mono hC (fun fin s' ⟨h', tk', e, ef, k⟩ => ?_) (fun _ _ ⟨_, _, _, q⟩ => q.elim)
    subst e ef
    refine ⟨_, rfl, ?_⟩
    have g : GoodWG cl (classAt s₁.heap) (ExcName.means s₁.heap) [.list xs] s₂ (.ok (.ret (.bool true))) (stt s₂ h' tk') := by
      refine ⟨.inl ⟨.bool true, .bool true, [], rfl, fun _ => rfl, .bool true, post_true xs, fun _ => ⟨List.nodup_nil, fun a ha => (nomatch ha)⟩⟩, .of_keep k, rfl, .of_eq L.gens⟩
    exact g.laid rfl rfl (ident_freeW rfl rfl rfl) L
end Mine
open PySem PySem.W PyProof.Rows
theorem PySem.Challenge.cw_md0024_01_holds : PySem.Challenge.rw_md0024_01.Holds := by
  o_law
  exact Mine.whole (by assumption)
