import PyProof.Rows.All
import Wide.All
import OpenK.AllK
import Wide.FinOn
import Lean
import PySem.Challenge.RW_wo0013_01
set_option Elab.async false

/-! Hd -/
namespace Mine
open PySem PySem.W PyProof.Rows
set_option maxRecDepth 100000
set_option maxHeartbeats 8000000
open_top hd for PySem.Challenge.rw_wo0013_01
end Mine

/-! Base -/
namespace Mine
open PySem PySem.W PyProof.Rows PySem.Calls
set_option maxRecDepth 100000
example : True := by (w_top off); trivial
open Sem (wp)

/-! ## A logic over clean stacks: no decoder row on the stack -/

/-- the question that `exported` asks of a row of the stack -/
def holdsIt (self : Value) : Code × Pos → Bool := fun
    | (.builtin "bytearray.__contains__" ⟨v :: _, _⟩, _) | (.builtin "bytearray.__mod__" ⟨v :: _, _⟩, _)
    | (.builtin "bytearray.__rmod__" ⟨_ :: v :: _, _⟩, _) | (.builtin "_struct.pack_into.held" ⟨v :: _, _⟩, _) => Builtin.Bytes.sameRef v self
    | (.builtin "bytearray.find.held" ⟨_ :: _ :: held, _⟩, _) => held.any (Builtin.Bytes.sameRef self)
    | (.builtin id ⟨v :: _, _⟩, _) => Builtin.Bytes.sameRef v self && Builtin.Bytes.decodersThatHold.contains id
    | _ => false

theorem exported_eq (self : Value) : Builtin.Bytes.exported self = (do return (← stack).any (holdsIt self)) := rfl

def OkCode (c : Code) : Prop := ∀ self p, holdsIt self (c, p) = false
def CleanB (Γ : Ctx) : Prop := ∀ x ∈ Γ.below, OkCode x.1
def Clean (Γ : Ctx) : Prop := OkCode Γ.code ∧ CleanB Γ

def wpC {α : Type} (M : Model) (A : Around) (t : Sem α) (Q : α → Shared → Prop) (E : Value → Shared → Prop) (s : Shared) : Prop :=
  ∀ Γ p, Γ.In A → Clean Γ → wp M Γ t (fun a _ s' => Q a s') (fun e _ s' => E e s') p s
def codeC (M : Model) (A : Around) (c : Code) (R : Result → Shared → Prop) (s : Shared) : Prop :=
  ∀ Γ p, Γ.code = c → Γ.Below A → CleanB Γ → wpCode M Γ R p s

section
variable {α β : Type} {M : Model} {A : Around} {E : Value → Shared → Prop} {s : Shared}

theorem wpC_of {t : Sem α} {Q : α → Shared → Prop} (h : wpAny M A t Q E s) : wpC M A t Q E s := fun Γ p hΓ _ => h Γ p hΓ
theorem codeC_of {c : Code} {R : Result → Shared → Prop} (h : codeAny M A c R s) : codeC M A c R s := fun Γ p hc hΓ _ => h Γ p hc hΓ
theorem wpC_pure {a : α} {Q : α → Shared → Prop} (h : Q a s) : wpC M A (pure a) Q E s := fun _ _ _ _ => h
theorem wpC_mono {t : Sem α} {Q Q' : α → Shared → Prop} {E' : Value → Shared → Prop} (h : wpC M A t Q E s)
    (hQ : ∀ a s, Q a s → Q' a s) (hE : ∀ e s, E e s → E' e s) : wpC M A t Q' E' s :=
  fun Γ p hΓ hc => Sem.wp_mono M Γ t (fun a _ s => hQ a s) (fun e _ s => hE e s) p s (h Γ p hΓ hc)
theorem wpC_bind {m : Sem α} {f : α → Sem β} {Q : β → Shared → Prop} (h : wpC M A m (fun a s' => wpC M A (f a) Q E s') E s) :
    wpC M A (m >>= f) Q E s := fun Γ p hΓ hc => by
  rw [Sem.wp_bind']
  exact Sem.wp_mono M Γ m (fun a p' s' h' => h' Γ p' hΓ hc) (fun _ _ _ h' => h') p s (h Γ p hΓ hc)
/-- the first part is walked with the library's rules, the rest over clean stacks -/
theorem wpC_bindA {m : Sem α} {f : α → Sem β} {Q : β → Shared → Prop} (h : wpAny M A m (fun a s' => wpC M A (f a) Q E s') E s) :
    wpC M A (m >>= f) Q E s := wpC_bind (wpC_of h)
theorem wpC_standAt {pos : Pos} {Q : Unit → Shared → Prop} (h : Q () s) : wpC M A (standAt pos) Q E s := wpC_of (wpAny_standAt h)
theorem wpC_holding {vs : List Value} {m : Sem α} {Q : α → Shared → Prop} (h : wpC M A m Q E s) : wpC M A (holding vs m) Q E s :=
  fun Γ p hΓ hc => by rw [Sem.wp_holding]; exact h Γ p hΓ hc
theorem wpC_onRaise {m : Sem α} {k : Value → Sem Unit} {Q : α → Shared → Prop}
    (h : wpC M A m Q (fun e s' => wpC M A (k e) (fun _ s'' => E e s'') E s') s) : wpC M A (m.onRaise k) Q E s := fun Γ p hΓ hc => by
  rw [Sem.wp_onRaise]
  exact Sem.wp_mono M Γ m (fun _ _ _ h' => h') (fun e p' s' h' => h' Γ p' hΓ hc) p s (h Γ p hΓ hc)
theorem wpC_attempt {m : Sem α} {Q : Except Value α → Shared → Prop} (h : wpC M A m (fun a => Q (.ok a)) (fun e => Q (.error e)) s) :
    wpC M A m.attempt Q E s := fun Γ p hΓ hc => by rw [Sem.wp_attempt]; exact h Γ p hΓ hc
theorem wpC_operate {vs : List Value} {m : Sem Value} {Q : Value → Shared → Prop} (h : wpC M A m Q E s) : wpC M A (operate vs m) Q E s :=
  fun Γ p hΓ hc => by rw [Sem.wp_operate]; exact h Γ p hΓ hc

theorem enter_clean {Γ : Ctx} (hc : Clean Γ) (c : Code) (h : Option Value) (p : Pos) : CleanB (Γ.enter c h p) := fun x hx => by
  rcases List.mem_cons.mp hx with rfl | hx
  · exact hc.1
  · exact hc.2 x hx

theorem codeC_mono {c : Code} {R R' : Result → Shared → Prop} (h : codeC M A c R s) (hR : ∀ r s, R r s → R' r s) : codeC M A c R' s :=
  fun Γ p hc hΓ hb => wpCode_mono hR (h Γ p hc hΓ hb)

theorem wpC_run {c : Code} {h : Option Value} {Q : Flow → Shared → Prop}
    (hc : codeC M (A.mark h) c (fun r s' => match r with | .ok f => Q f s' | .error e => E e s') s) (hnb : h ≠ some byPass := by intro x; cases x) :
    wpC M A (run c h) Q E s :=
  fun Γ p hΓ hcl => by rw [Sem.wp_run]; exact hc _ p rfl (hΓ.enter c h p hnb) (enter_clean hcl _ _ _)
theorem wpC_runValue {c : Code} {Q : Value → Shared → Prop}
    (hc : codeC M A c (fun r s' => match r with | .ok (.ret v) => Q v s' | .ok _ => False | .error e => E e s') s) :
    wpC M A (runValue c) Q E s := fun Γ p hΓ hcl => by rw [Sem.wp_runValue]; exact hc _ p rfl (hΓ.enter c none p (by intro x; cases x)) (enter_clean hcl _ _ _)
theorem wpC_call {f : Value} {pos : List Value} {kw : List (Str × Value)} {Q : Value → Shared → Prop}
    (hc : codeC M A (.call f ⟨pos, kw⟩) (fun r s' => match r with | .ok (.ret v) => Q v s' | .ok _ => False | .error e => E e s') s) :
    wpC M A (call f pos kw) Q E s := wpC_runValue hc

theorem codeC_of_tree {c : Code} {R : Result → Shared → Prop} (hok : OkCode c)
    (h : wpC M (A.under c) (M.den c) (fun fin s' => match fin with | .done f => R (.ok f) s' | .again c' => c'.quiet = true ∧ codeC M A c' R s')
      (fun e s' => R (.error e) s') s) : codeC M A c R s := fun Γ p hc hΓ hb => by
  rw [wpCode_iff_wp, hc]
  refine Sem.wp_mono M Γ _ (fun fin p' s' h' => ?_) (fun _ _ _ h' => h') p s (h Γ p (hc ▸ hΓ.in) ⟨hc ▸ hok, hb⟩)
  cases fin with
  | done f => exact h'
  | again c' => exact ⟨h'.1, h'.2 (Γ.goto c') p' rfl (hΓ.goto c') hb⟩

/-- what `exported` answers on a clean stack -/
theorem wpC_exported {self : Value} {Q : Bool → Shared → Prop} (h : Q false s) : wpC M A (Builtin.Bytes.exported self) Q E s := fun Γ p _ hc => by
  rw [exported_eq]
  show Q (((Γ.code, p) :: Γ.below).any (holdsIt self)) s
  have e : ((Γ.code, p) :: Γ.below).any (holdsIt self) = false := by
    rw [List.any_eq_false]
    intro x hx
    rcases List.mem_cons.mp hx with rfl | hx
    · rw [hc.1 self p]; exact Bool.false_ne_true
    · obtain ⟨c, q⟩ := x
      rw [hc.2 _ hx self q]; exact Bool.false_ne_true
  rw [e]; exact h
end

theorem okCode_func (b env) : OkCode (.func b env) := fun _ _ => rfl
theorem okCode_call (f a) : OkCode (.call f a) := fun _ _ => rfl
theorem okCode_for (t i b o env) : OkCode (.forLoop t i b o env) := fun _ _ => rfl
theorem okCode_while (t b o env) : OkCode (.whileLoop t b o env) := fun _ _ => rfl
theorem okCode_block (b env) : OkCode (.block b env) := fun _ _ => rfl
theorem okCode_typeCall (T : String) (as : List Value) (kw) : OkCode (.builtin "type.__call__" ⟨.type T :: as, kw⟩) := fun _ _ => rfl
theorem okCode_init (as : List Value) (kw) : OkCode (.builtin "bytearray.__init__" ⟨as, kw⟩) := fun self p => by
  cases as with
  | nil => rfl
  | cons v r =>
    show (Builtin.Bytes.sameRef v self && Builtin.Bytes.decodersThatHold.contains "bytearray.__init__") = false
    have : Builtin.Bytes.decodersThatHold.contains "bytearray.__init__" = false := by decide +kernel
    rw [this, Bool.and_false]
theorem okCode_caller : OkCode (.builtin "claim.caller" {}) := fun _ _ => rfl
end Mine

/-! Toks -/
namespace Mine
open PySem PySem.W PyProof.Rows PySem.Calls PySem.Spec
set_option maxRecDepth 100000
example : True := by (w_top off); trivial
open Sem (wp)
/-! ## tokens never fall -/
theorem runs_toks {M : Model} {Γ : PySem.Ctx} {p : Pos} {t : Sem PySem.Fin} {fs : List Frame} {s : Shared} {e : PySem.End} {s' : Shared} (h : Runs M Γ p t fs s e s') : s.toks ≤ s'.toks := by
  induction h <;> first
    | exact Nat.le_refl _
    | assumption
    | (simp only [Shared.setGen] at *; omega)
    | (dsimp only at *; omega)
    | omega

theorem wp_toks {α : Type} {M : Model} {Γ : PySem.Ctx} : ∀ (t : Sem α) {Q : α → Pos → Shared → Prop} {E : Value → Pos → Shared → Prop} {p : Pos} {s : Shared}, wp M Γ t Q E p s → ∀ {n : Nat}, n ≤ s.toks →
    wp M Γ t (fun a p' s' => Q a p' s' ∧ n ≤ s'.toks) (fun e p' s' => E e p' s' ∧ n ≤ s'.toks) p s := by
  intro t
  induction t with
  | pure a => exact fun h _ hn => ⟨h, hn⟩
  | raise e => exact fun h _ hn => ⟨h, hn⟩
  | unsupported w => exact fun h => h.elim
  | finish e => exact fun h => h.elim
  | yield v g l k ih => exact fun h => h.elim
  | fork c k ih => exact fun h => h.elim
  | await a t d l k ih => exact fun h => h.elim
  | register a k ih => exact fun h => h.elim
  | rule tag k ih => exact fun h _ hn => ih () h hn
  | «at» p' k ih => exact fun h _ hn => ih () h hn
  | load a part k ih => exact fun ⟨o, ho, h⟩ _ hn => ⟨o, ho, ih o h hn⟩
  | update a part f k ih => exact fun ⟨ho, h⟩ _ hn => ⟨ho, ih () h hn⟩
  | loadIfAlive a k ih => exact fun h _ hn => ih _ h hn
  | point l k ih => exact fun h _ hn => ih () h hn
  | alloc o k ih => exact fun h _ hn => ih _ h hn
  | fresh k ih => exact fun h _ hn => ih _ h (Nat.le_succ_of_le hn)
  | ask k ih => exact fun h _ hn => ih _ h hn
  | choose src n k ih => exact fun ⟨h0, h⟩ _ hn => ⟨h0, ih _ h hn⟩
  | os q l k ih => exact fun h _ hn => ih _ h hn
  | handled own k ih => exact fun h _ hn => ih _ h hn
  | genState g k ih => exact fun ⟨st, hg, h⟩ _ hn => ⟨st, hg, ih _ h hn⟩
  | newGen c k ih => exact fun h _ hn => ih _ h hn
  | stack k ih => exact fun h _ hn => ih _ h hn
  | thread k ih => exact fun h _ hn => ih _ h hn
  | call c hd g l k ih => exact fun ⟨r, s₁, hr, h⟩ _ hn => ⟨r, s₁, hr, ih _ h (Nat.le_trans hn (runs_toks hr))⟩
  | resume g r l k ih =>
    rintro Q E p s ⟨res, s₁, hw, h⟩ n hn
    refine ⟨res, s₁, hw, ih _ h (Nat.le_trans hn ?_)⟩
    unfold Wakes at hw
    split at hw
    · exact hw.elim
    · split at hw
      · obtain ⟨e₁, s₂, hr, _, _, rfl⟩ := hw
        have x := runs_toks hr; exact x
      · rw [hw.2]; exact Nat.le_refl _
      · rw [hw.2]; exact Nat.le_refl _
    · obtain ⟨e₁, s₂, hr, _, _, rfl⟩ := hw
      have x := runs_toks hr; exact x
    · rw [hw.2]; exact Nat.le_refl _
    · rw [hw.2]; exact Nat.le_refl _

/-- whatever is walked, the tokens do not fall -/
theorem wpAny_tk {α : Type} {M : Model} {A : Around} {t : Sem α} {Q : α → Shared → Prop} {E : Value → Shared → Prop} {s : Shared} (h : wpAny M A t (fun a s' => s.toks ≤ s'.toks → Q a s') E s) : wpAny M A t Q E s :=
  fun Γ p hΓ => Sem.wp_mono M Γ t (fun _ _ _ x => x.1 x.2) (fun _ _ _ x => x.1) p s (wp_toks t (h Γ p hΓ) (Nat.le_refl _))
theorem wpC_tk {α : Type} {M : Model} {A : Around} {t : Sem α} {Q : α → Shared → Prop} {E : Value → Shared → Prop} {s : Shared} (h : wpC M A t (fun a s' => s.toks ≤ s'.toks → Q a s') E s) : wpC M A t Q E s :=
  fun Γ p hΓ hc => Sem.wp_mono M Γ t (fun _ _ _ x => x.1 x.2) (fun _ _ _ x => x.1) p s (wp_toks t (h Γ p hΓ hc) (Nat.le_refl _))
end Mine

/-! Ba -/
namespace Mine
open PySem PySem.W PyProof.Rows PySem.Calls
set_option maxRecDepth 100000
example : True := by (w_top off); trivial
open Sem (wp)
/-! ## bytearray(n) -/
namespace Ba
theorem mro : mroOf (.type "bytearray") = pure [.type "bytearray", .type "object"] := by rw [mroOf_type]; kernel_rfl
theorem look_new : typeLookup (.type "bytearray") "__new__" = pure (some (.builtin "bytearray.__new__")) := by rw [typeLookup_type, builtinLookup_eq_fast]; kernel_rfl
theorem slot_init : Slot "bytearray" "__init__" "bytearray.__init__" :=
  .of (owner := "bytearray") (n := "__init__") (by rw [typeLookup_type, builtinLookup_eq_fast]; kernel_rfl) (by decide +kernel) (by decide +kernel) (by decide +kernel)
    (by first | exact .inl (by decide +kernel) | exact .inr (by decide +kernel)) (by rw [isSubtype_type]; kernel_rfl)
theorem sub_self : isSubtype (.type "bytearray") (.type "bytearray") = pure true := by rw [isSubtype_type]; kernel_rfl
theorem called : TypeCalled "bytearray" "bytearray.__new__" "bytearray.__init__" :=
  ⟨by decide +kernel, by decide +kernel, ⟨_, _, mro⟩, madeBy_type mro look_new (by decide +kernel), by decide +kernel, sub_self, slot_init⟩
theorem typeCall_1 (a : Value) : checkTypeCall "bytearray" ⟨[a], []⟩ = pure () := by kernel_rfl
theorem newCall_1 (a : Value) : checkBuiltinCall "bytearray.__new__" ⟨[.type "bytearray", a], []⟩ = pure () := by kernel_rfl
theorem entry_new : entryFor table "bytearray.__new__" = some Builtin.«list.__new__» :=
  entryFor_alias (id' := "list.__new__") (by rw [fastTable_eq_tree]; kernel_rfl) (by first | rfl | decide +kernel) (by decide +kernel) (by rw [fastTable_eq_tree]; kernel_rfl)
theorem entry_init : entryFor table "bytearray.__init__" = some Builtin.«bytearray.__init__» := by first | exact entryFor_of_tree (by kernel_rfl) | exact entryFor_of_fast (by kernel_rfl)
theorem plain_new : plainId "bytearray.__new__" = true := by decide +kernel
set_option maxHeartbeats 4000000 in
theorem owner_new : ("bytearray.__new__".splitOn ".__new__").headD "" = "bytearray" := by simp +decide [String.splitOn, String.splitOnAux]

section
variable {prog : Program} {w : World} {A : Around} {E : Value → Shared → Prop} {s : Shared}
theorem code_new (a : Value) {Q₁ : Value → Shared → Prop}
    (h : Q₁ (.ref s.heap.objs.size) { s with heap := s.heap.push { cls := .type "bytearray", data := .bytearray #[] } }) :
    codeAny (model prog w) A (.call (.builtin "bytearray.__new__") ⟨[.type "bytearray", a], []⟩) (wants Q₁ E) s := by
  refine codeAny_of_tree ?_
  show wpAny _ A.in1 (do checkBuiltinCall "bytearray.__new__" ⟨[.type "bytearray", a], []⟩; again (.builtin "bytearray.__new__" ⟨[.type "bytearray", a], []⟩)) _ _ s
  refine wpAny_bind (wpAny_of_eq (newCall_1 a) (wpAny_pure ⟨plainId_quiet plain_new _, codeAny_builtin_stack entry_new rfl fun p st => ?_⟩))
  rw [Around.under_plainId plain_new _]
  have hsub := sub_self
  have hown := owner_new
  obtain ⟨hp, g, d, tk, os⟩ := s
  simp only [hown]
  wp_walk
  exact h

theorem okInit : argsOk "bytearray.__init__" ⟨[obj, a], []⟩ := by
  first
    | (show Bind.checkArgs _ _ _ = _; kernel_rfl)
    | (unfold argsOk; kernel_rfl)
theorem no_release : typeLookup (.type "bytearray") "__release_buffer__" = pure (some (.builtin "bytearray.__release_buffer__")) := by rw [typeLookup_type, builtinLookup_eq_fast]; kernel_rfl
theorem int_index : typeLookup (.type "int") "__index__" = pure (some (.builtin "int.__index__")) := by rw [typeLookup_type, builtinLookup_eq_fast]; kernel_rfl
end
end Ba

section
variable {prog : Program} {w : World} {A : Around} {E : Value → Shared → Prop} {s : Shared} {R : Result → Shared → Prop}
theorem codeC_builtin {id : String} {args : Args} {b : Builtin} (hb : entryFor table id = some b) (ok : OkCode (.builtin id args))
    (h : wpC (model prog w) (A.under (.builtin id args)) (b args) (fun fin s' => match fin with | .done f => R (.ok f) s' | .again c' => c'.quiet = true ∧ codeC (model prog w) A c' R s') (fun e s' => R (.error e) s') s) :
    codeC (model prog w) A (.builtin id args) R s := by
  refine codeC_of_tree ok ?_
  show wpC _ _ (match entryFor table id with | some b => b args | none => unsupported ((withoutEnding? id "#data").getD id)) _ _ s
  rw [hb]; exact h
theorem codeC_call_builtin {id : String} {args : Args} {b : Builtin} (hq : plainId id = true) (hb : entryFor table id = some b) (ok : OkCode (.builtin id args))
    (h : wpAny (model prog w) A.in1 (checkBuiltinCall id args) (fun _ s₁ => wpC (model prog w) A.in1 (b args)
      (fun fin s' => match fin with | .done f => R (.ok f) s' | .again c' => c'.quiet = true ∧ codeC (model prog w) A c' R s') (fun e s' => R (.error e) s') s₁)
      (fun e s' => R (.error e) s') s) : codeC (model prog w) A (.call (.builtin id) args) R s := by
  refine codeC_of_tree (okCode_call _ _) ?_
  show wpC _ A.in1 (do checkBuiltinCall id args; again (.builtin id args)) _ _ s
  refine wpC_bindA (wpAny_mono h (fun _ s₁ h₁ => wpC_pure ⟨plainId_quiet hq args, codeC_builtin hb ok ?_⟩) fun _ _ x => x)
  rw [Around.under_plainId hq args]; exact h₁

theorem wpC_if_false {α : Type} {M : Model} {c : Bool} {a b : Sem α} {Q : α → Shared → Prop} (hc : c = false) (h : wpC M A b Q E s) : wpC M A (if c = true then a else b) Q E s := by
  subst hc; exact h
theorem wpC_if_true {α : Type} {M : Model} {c : Bool} {a b : Sem α} {Q : α → Shared → Prop} (hc : c = true) (h : wpC M A a Q E s) : wpC M A (if c = true then a else b) Q E s := by
  subst hc; exact h

theorem wpAny_write {S : Addr} {b b' : Array UInt8} {f : Array UInt8 → Array UInt8} {Q : Unit → Shared → Prop} {M : Model} (hS : s.heap.get? S = some { cls := .type "bytearray", data := .bytearray b })
    (e : f b = b') (hz : b'.size ≤ sizeLine) (h : (s.heap.update S (Obj.mapBytearray f)).get? S = some { cls := .type "bytearray", data := .bytearray b' } → Q () { s with heap := s.heap.update S (Obj.mapBytearray f) }) :
    wpAny M A (Builtin.Bytes.write (.ref S) f) Q E s := by
  subst e
  show wpAny _ _ (updateBytearray S f) _ _ _
  unfold updateBytearray
  refine wpAny_bind (wpAny_load hS ?_)
  show wpAny _ _ (update S (Obj.mapBytearray f) >>= fun _ => lookBehind S) _ _ _
  refine wpAny_bind (wpAny_update hS ?_)
  have hS₂ : (s.heap.update S (Obj.mapBytearray f)).get? S = some { cls := .type "bytearray", data := .bytearray (f b) } :=
    Heap.get?_update_self (Obj.mapBytearray f) hS rfl
  refine wpAny_lookBehind hS₂ ?_ (h hS₂)
  show (if (f b).size > sizeLine then some "bytearray:memory" else none) = none
  rw [if_neg (Nat.not_lt.mpr hz)]

theorem ba_type {S : Addr} {b : Array UInt8} (hS : s.heap.get? S = some { cls := .type "bytearray", data := .bytearray b }) : s.TypeIs (.ref S) "bytearray" := ⟨_, hS, rfl⟩

theorem wpC_neg {α : Type} {M : Model} {c : Prop} [Decidable c] {a b : Sem α} {Q : α → Shared → Prop} (hc : ¬ c) (h : wpC M A b Q E s) : wpC M A (if c then a else b) Q E s := by
  rw [if_neg hc]; exact h
theorem wpC_pos {α : Type} {M : Model} {c : Prop} [Decidable c] {a b : Sem α} {Q : α → Shared → Prop} (hc : c) (h : wpC M A a Q E s) : wpC M A (if c then a else b) Q E s := by
  rw [if_pos hc]; exact h
theorem ownRelease_ba {M : Model} {S : Addr} {Q : Bool → Shared → Prop} (hT : s.TypeIs (.ref S) "bytearray") (h : Q false s) : wpAny M A (Builtin.Bytes.ownRelease (.ref S)) Q E s := by
  unfold Builtin.Bytes.ownRelease Builtin.Bytes.slotIsOwn
  refine wpAny_bind (wpAny_bind (wpAny_specialOf hT Ba.no_release ?_))
  dsimp only
  have h1 : (!("bytearray.__release_buffer__".endsWith ("." ++ "__release_buffer__"))) = false := by decide +kernel
  have h2 : ("bytearray.__release_buffer__".dropRight ("__release_buffer__".length + 1)) = "bytearray" := by decide +kernel
  rw [h1, h2]
  show wpAny _ _ (isInstance (.ref S) (.type "bytearray")) _ _ _
  exact wpAny_isInstance hT Ba.sub_self (wpAny_pure h)
theorem bind_init (v : Value) : Builtin.Bytes.bindOptional "bytearray.__init__" "bytearray" ["source", "encoding", "errors"] [v] [] = pure [some v, none, none] := by kernel_rfl

theorem wpC_init {S : Addr} {n : Int} {t : Tok} {Q : Fin → Shared → Prop} (h0 : 0 ≤ n) (hn : n ≤ 1000000) (hS : s.heap.get? S = some { cls := .type "bytearray", data := .bytearray #[] })
    (h : ∀ h', (∀ b o, b ≠ S → s.heap.get? b = some o → h'.get? b = some o) → h'.get? S = some { cls := .type "bytearray", data := .bytearray (Array.replicate n.toNat 0) } → Q (.done (.ret .none)) { s with heap := h' }) :
    wpC (model prog w) A (Builtin.«bytearray.__init__» ⟨[.ref S, .int n t], []⟩) Q E s := by
  have hT := ba_type hS
  unfold Builtin.«bytearray.__init__»
  dsimp only
  refine wpC_bindA (ownRelease_ba hT ?_)
  refine wpC_if_false rfl ?_
  refine wpC_bindA (wpAny_of_eq (bind_init _) ?_)
  dsimp only
  refine wpC_bindA (wpAny_of_eq (a := ()) rfl ?_)
  refine wpC_bindA (wpAny_of_eq (a := ()) rfl ?_)
  refine wpC_bind ?_
  show wpC _ _ (Builtin.Bytes.exported (.ref S) >>= _) _ _ _
  refine wpC_bind (wpC_exported ?_)
  show wpC _ _ (Builtin.Bytes.exportsOf (.ref S) >>= _) _ _ _
  refine wpC_bindA ?_
  show wpAny _ _ (load S >>= _) _ _ _
  refine wpAny_bind (wpAny_load hS (wpAny_pure (wpC_pure ?_)))
  refine wpC_if_false rfl ?_
  refine wpC_bindA (wpAny_write hS (b' := #[]) rfl (Nat.zero_le _) fun hS₁ => ?_)
  generalize hg : s.heap.update S (Obj.mapBytearray fun _ => #[]) = g at hS₁ ⊢
  have kg : ∀ b o, b ≠ S → s.heap.get? b = some o → g.get? b = some o := fun b o hb e => hg ▸ (Heap.get?_update_other _ _ (Ne.symm hb)).trans e
  refine wpC_bindA (wpAny_of_eq (rfl : asStr? (.int n t) = pure none) ?_)
  refine wpC_if_false rfl ?_
  refine wpC_bindA ?_
  show wpAny _ _ (pure ()) _ _ _
  refine wpAny_pure ?_
  refine wpC_bindA (wpAny_specialOf_val (rfl : typeOf (.int n t) = pure (.type "int")) Ba.int_index ?_)
  refine wpC_if_true rfl ?_
  refine wpC_bindA (wpAny_attempt (wpAny_of_eq (rfl : asIndex (.int n t) = pure n) ?_))
  dsimp only
  have f1 : Builtin.Bytes.fitsIndex n = true := by
    unfold Builtin.Bytes.fitsIndex
    simp only [Bool.and_eq_true, decide_eq_true_eq]
    omega
  refine wpC_if_false (by rw [f1]; rfl) ?_
  refine wpC_neg (by omega) ?_
  refine wpC_neg (by rw [beq_iff_eq]; omega) ?_
  have f2 : Builtin.Bytes.tooLong n.toNat = false := by
    unfold Builtin.Bytes.tooLong
    rw [sizeLine_eq]
    exact decide_eq_false (by omega)
  refine wpC_if_false f2 ?_
  refine wpC_bindA (wpAny_rule ?_)
  by_cases hp : n > 0
  · refine wpC_pos hp ?_
    refine wpC_bindA (wpAny_write (s := { s with heap := g }) hS₁ (b' := Array.replicate n.toNat 0) rfl (by rw [sizeLine_eq, Array.size_replicate]; omega) fun hS₂ => ?_)
    refine wpC_pure (h _ (fun b o hb e => (Heap.get?_update_other _ _ (Ne.symm hb)).trans (kg b o hb e)) hS₂)
  · refine wpC_neg hp ?_
    have e0 : n.toNat = 0 := by omega
    refine wpC_pure (h g kg ?_)
    rw [hS₁, e0]
    rfl

theorem wpC_bytearray {n : Int} {t : Tok} {Q : Value → Shared → Prop} (h0 : 0 ≤ n) (hn : n ≤ 1000000)
    (h : ∀ h', (∀ b o, s.heap.get? b = some o → h'.get? b = some o) → h'.get? s.heap.objs.size = some { cls := .type "bytearray", data := .bytearray (Array.replicate n.toNat 0) } →
      Q (.ref s.heap.objs.size) { s with heap := h' }) : wpC (model prog w) A (call (.type "bytearray") [.int n t]) Q E s := by
  refine wpC_call (codeC_of_tree (okCode_call _ _) ?_)
  show wpC _ _ (callAny (.type "bytearray") _) _ _ _
  refine wpC_pure ⟨Code.quiet_builtin _ (by decide +kernel), codeC_builtin F.entry_type_call (okCode_typeCall _ _ _) ?_⟩
  rw [Around.under_plain (weight_type_call_type "bytearray" _ []) rfl]
  unfold Builtin.«type.__call__»
  dsimp only
  refine wpC_if_false Ba.called.notType ?_
  refine wpC_if_false Ba.called.canCreate ?_
  refine wpC_bindA (wpAny_of_eq (Ba.typeCall_1 _) ?_)
  refine wpC_bindA (wpAny_of_eq Ba.mro ?_)
  refine wpC_if_false rfl ?_
  refine wpC_bindA (wpAny_of_eq Ba.called.made ?_)
  refine wpC_bindA (wpAny_pure ?_)
  refine wpC_bindA (wpAny_holding (wpAny_call ?_))
  refine codeAny_mono (Ba.code_new (E := fun _ _ => False) (.int n t) (Q₁ := fun obj s₁ => obj = .ref s.heap.objs.size ∧ s₁ = { s with heap := s.heap.push { cls := .type "bytearray", data := .bytearray #[] } }) ⟨rfl, rfl⟩) fun r s₁ hr => ?_
  cases r with
  | error e => exact hr.elim
  | ok fl =>
    cases fl with
    | ret obj =>
      obtain ⟨rfl, rfl⟩ := hr
      have hS : (s.heap.push { cls := .type "bytearray", data := .bytearray #[] }).get? s.heap.objs.size = some { cls := .type "bytearray", data := .bytearray #[] } := Heap.get?_push_size _ rfl
      have hT : ({ s with heap := s.heap.push { cls := .type "bytearray", data := .bytearray #[] } } : Shared).TypeIs (.ref s.heap.objs.size) "bytearray" := ba_type (s := { s with heap := s.heap.push { cls := .type "bytearray", data := .bytearray #[] } }) hS
      refine wpC_bindA (wpAny_isInstance hT Ba.sub_self ?_)
      refine wpC_if_false rfl ?_
      refine wpC_bind (wpC_holding ?_)
      unfold callSpecial?
      refine wpC_bindA (wpAny_specialOf hT Ba.slot_init.lookup ?_)
      dsimp only
      rw [Ba.slot_init.bind]
      refine wpC_holding (wpC_bindA (wpAny_pure ?_))
      dsimp only
      refine wpC_bind (wpC_call ?_)
      refine codeC_call_builtin Ba.slot_init.plain Ba.entry_init (okCode_init _ _) ?_
      refine Ba.slot_init.check _ _ _ _ _ _ _ _ hT Ba.okInit ?_
      refine wpC_init (s := { s with heap := s.heap.push { cls := .type "bytearray", data := .bytearray #[] } }) h0 hn hS fun h' kk hh => ?_
      refine wpC_pure (wpC_if_false rfl (wpC_pure ?_))
      exact h h' (fun b o e => kk b o (Nat.ne_of_lt (Heap.lt_size e)) (Heap.get?_push_of_some _ e)) hh
    | next => exact hr.elim
    | brk => exact hr.elim
    | cont => exact hr.elim
end
end Mine

/-! Enter -/
namespace Mine
open PySem PySem.W PyProof.Rows PySem.Calls PySem.Spec
set_option maxRecDepth 100000
example : True := by (w_top off); trivial
open Sem (wp)
/-! ## calls of the text's defs over clean stacks -/
section
variable {prog : Program} {w : World} {A : Around} {E : Value → Shared → Prop} {s : Shared} {R : Result → Shared → Prop}

theorem codeC_func {body env}
    (h : wpC (model prog w) (A.deeper env) (execs body env) (fun f s' => R (.ok (.ret (match f with | .ret v => v | _ => .none))) s') (fun _ _ => False) s) :
    codeC (model prog w) A (.func body env) R s := by
  refine codeC_of_tree (okCode_func _ _) ?_
  show wpC _ (A.deeper env) (do point; match ← (execs body env).onRaise (leaving env) with | .ret v => ret v | _ => ret .none) _ _ s
  refine wpC_bindA (wpAny_point (wpC_bind (wpC_onRaise (wpC_mono h (fun f s' h' => ?_) fun _ _ x => x.elim))))
  cases f <;> exact wpC_pure h'

theorem codeC_call_function {a : Addr} {args : Args} {o : Obj} {fd : FuncData} {body : List Stmt} (hroom : A.depth < recursionLimit)
    (ho : s.heap.get? a = some o) (hd' : o.data = .func fd) (hco : fd.scope.isCoroutine = false) (hgen : fd.scope.isGenerator = false) (hbody : fd.body = .stmts body) (hcd : s.heap.CodeRec fd.code fd.qualname)
    (h : wpAny (model prog w) A.in1 (bindArgs fd args) (fun binds s₁ =>
      wpAny (model prog w) A.in1 (newFunctionEnv fd.scope fd.globals fd.closure binds (fd.qualname ++ ".<locals>.") (some a) fd.code none fd.builtins)
        (fun env s₂ => s₂.heap.NoLimit ∧ codeC (model prog w) A (.func body env) R s₂) (fun e s' => R (.error e) s') s₁) (fun e s' => R (.error e) s') s) :
    codeC (model prog w) A (.call (.ref a) args) R s := by
  refine codeC_of_tree (okCode_call _ _) ?_
  show wpC _ A.in1 (callAny (.ref a) args) _ _ s
  simp only [callAny]
  refine wpC_bindA (wpAny_load ho ?_)
  obtain ⟨c, oc, vs, tq, hc, hoc, hdc, hq⟩ := hcd
  simp only [hd', callFunction, hco, hgen, hbody, hc]
  rw [hc] at h
  refine wpC_bindA (m := field (.ref c) 1) (wpAny_field hoc hdc hq (wpC_bindA (wpAny_pure ?_)))
  exact wpC_bindA (wpAny_mono h (fun binds s₁ h₁ => wpC_bindA (wpAny_mono h₁ (fun env s₂ h₂ => wpC_bindA (wpAny_enterFrame h₂.1 hroom
    (wpC_pure (And.intro rfl h₂.2)))) fun _ _ h' => h')) fun _ _ h' => h')

/-- what is left behind by a def's body: its frame, and what the caller's frame and ledger have become -/
def Back (h₀ : Heap) (L : Addr) (m : Str → Option Value) (news : List (Addr × Obj)) (g : Heap) (R : Result → Shared → Prop) (v : Value) (s' : Shared) : Prop :=
  ∃ L' m', Fr g L' s'.heap m' ∧ (Fr h₀ L s'.heap m → News h₀ L s'.heap news → R (.ok (.ret v)) s')

variable {A₀ : Around} {base h₀ : Heap} {outer : List Env} {L : Addr} {m : Str → Option Value} {env : Env} {news : List (Addr × Obj)} {K : Frag} {p : Program} {loose : List Str} {mean : ExcName → Option Value} {mg mb : Str → Option Value}
  {name qual : Str} {params : Arguments} {body : List Stmt} {scope : Scope} {dV kV doc pm cdv ct oc : Value} {an od : Option Addr} {osl : Array (Option Value)} {f : Addr} {args : Args} {binds : List (Str × Value)}

theorem enterC (B : Below A₀ base outer h₀) (F : Fr h₀ L s.heap m) (X₀ : K.In h₀) (N : News h₀ L s.heap news) (T : Top p loose mean mg mb h₀) (hA : A.frames = some (env :: outer)) (hf : env.frame = some L) (hke : env.scope.kind = .function)
    (ho : K.lookup f = some ⟨oc, od, .func (fnOf name qual params body scope dV kV doc pm an cdv ct), osl⟩) (hcd : codeIn K cdv qual = true) (hroom : A.depth < recursionLimit)
    (hbind : BindsTo s (fnOf name qual params body scope dV kV doc pm an cdv ct) args binds) (hloc : ∀ y ∈ binds, scope.names.lookup y.1 = some .local)
    (h : ∀ L' h₁, Fr s.heap L' h₁ (fun y => binds.reverse.lookup y) → News s.heap L' h₁ [] → Below A base (env :: outer) s.heap → K.In s.heap → Top p loose mean mg mb s.heap →
      wpC (model prog w) (A.deeper (envOf qual scope L' f cdv)) (execs body (envOf qual scope L' f cdv))
        (fun fl s' => Back h₀ L m news s.heap R (match fl with | .ret v => v | _ => .none) s') (fun _ _ => False) { s with heap := h₁, toks := s.toks + binds.length })
    (hco : scope.isCoroutine = false) (hgen : scope.isGenerator = false) (hk : scope.kind = .function)
    (hcell : ∀ x ∈ scope.names, x.2 ≠ .cell) : codeC (model prog w) A (.call (.ref f) args) R s := by
  have hlim := T.nolimit.keeps F.keep
  have BP := pushX B F hf hke
  have BG : Below A base (env :: outer) s.heap := ⟨hA, BP.stays, BP.frames⟩
  refine codeC_call_function (fd := fnOf name qual params body scope dV kV doc pm an cdv ct) hroom ((X₀.keeps F.keep) _ _ ho) rfl hco hgen rfl (codeRec_of (X₀.keeps F.keep) hcd) (hbind _ _ _ _ ?_)
  refine wpAny_newFunctionEnv hcell hloc (fun h₁ hns₁ hsb₁ => ⟨hlim.fresh _ hsb₁, codeC_func ?_⟩) hk
  have up : ∀ b o, s.heap.get? b = some o → h₁.get? b = some o := fun b o e => hsb₁.extBut b o (Nat.ne_of_lt (Heap.lt_size e)) (Heap.get?_push_of_some _ e)
  refine wpC_mono (h s.heap.objs.size h₁ ⟨hns₁, up, Nat.le_refl _⟩ News.nil BG (X₀.keeps F.keep) (T.keeps F.keep)) (fun fl s' hl => ?_) fun _ _ x => x
  obtain ⟨L'', m'', F'', k⟩ := hl
  exact k (F.keeps F''.keep) (N.grown F''.keep)

theorem enterC_cells (B : Below A₀ base outer h₀) (F : Fr h₀ L s.heap m) (X₀ : K.In h₀) (N : News h₀ L s.heap news) (T : Top p loose mean mg mb h₀) (hA : A.frames = some (env :: outer)) (hf : env.frame = some L) (hke : env.scope.kind = .function)
    (ho : K.lookup f = some ⟨oc, od, .func (fnOf name qual params body scope dV kV doc pm an cdv ct), osl⟩) (hcd : codeIn K cdv qual = true) (hroom : A.depth < recursionLimit)
    (hbind : BindsTo s (fnOf name qual params body scope dV kV doc pm an cdv ct) args binds) (hkind : (binds.all fun y => scope.names.lookup y.1 == some .local || scope.names.lookup y.1 == some .cell) = true)
    (hnd : ((cellsFrom 0 scope.names []).map (·.1)).Nodup)
    (h : ∀ L' h₁ tk cells, s.toks ≤ tk → Fr s.heap L' h₁ (bindL (envOfC qual scope L' f cdv).kindOf binds fun _ => none) → News s.heap L' h₁ cells →
      CellsAre (bindC (envOfC qual scope L' f cdv).kindOf binds fun _ => none) (cellsFrom (L' + 1) scope.names []) cells → Below A base (env :: outer) s.heap → K.In s.heap → Top p loose mean mg mb s.heap →
      wpC (model prog w) (A.deeper (envOfC qual scope L' f cdv)) (execs body (envOfC qual scope L' f cdv))
        (fun fl s' => Back h₀ L m news s.heap R (match fl with | .ret v => v | _ => .none) s') (fun _ _ => False) { s with heap := h₁, toks := tk })
    (hco : scope.isCoroutine = false) (hgen : scope.isGenerator = false) (hk : scope.kind = .function) : codeC (model prog w) A (.call (.ref f) args) R s := by
  have hlim := T.nolimit.keeps F.keep
  have BP := pushX B F hf hke
  have BG : Below A base (env :: outer) s.heap := ⟨hA, BP.stays, BP.frames⟩
  refine codeC_call_function (fd := fnOf name qual params body scope dV kV doc pm an cdv ct) hroom ((X₀.keeps F.keep) _ _ ho) rfl hco hgen rfl (codeRec_of (X₀.keeps F.keep) hcd) (hbind _ _ _ _ ?_)
  refine wpAny_tk (wpAny_newFunctionEnv_cells hk (kindsX hkind _) fun env' he s' x htk => ?_)
  subst he
  refine ⟨hlim.keeps x.toInCall.keep, codeC_func ?_⟩
  obtain ⟨h₁, tk, rfl, _⟩ := x.done
  have hk₁ := x.toInCall.keep
  obtain ⟨cells, NC, Y⟩ := Cl.news (h₀ := s.heap) (Nat.le_refl _) fun n c hm => ⟨x.cell n c (lookup_of_mem_nodup (cellsFrom_names scope.names 0 (s.heap.objs.size + 1) [] [] rfl ▸ hnd) hm), x.above n c hm⟩
  refine wpC_mono (h s.heap.objs.size h₁ tk cells htk ⟨x.toInCall.ns, hk₁, Nat.le_refl _⟩ NC Y BG (X₀.keeps F.keep) (T.keeps F.keep)) (fun fl s' hl => ?_) fun _ _ x => x
  obtain ⟨L'', m'', F'', k⟩ := hl
  exact k (F.keeps F''.keep) (N.grown F''.keep)

/-- the same by the library's own logic -/
theorem enterA (B : Below A₀ base outer h₀) (F : Fr h₀ L s.heap m) (X₀ : K.In h₀) (N : News h₀ L s.heap news) (T : Top p loose mean mg mb h₀) (hA : A.frames = some (env :: outer)) (hf : env.frame = some L) (hke : env.scope.kind = .function)
    (ho : K.lookup f = some ⟨oc, od, .func (fnOf name qual params body scope dV kV doc pm an cdv ct), osl⟩) (hcd : codeIn K cdv qual = true) (hroom : A.depth < recursionLimit)
    (hbind : BindsTo s (fnOf name qual params body scope dV kV doc pm an cdv ct) args binds) (hloc : ∀ y ∈ binds, scope.names.lookup y.1 = some .local)
    (h : ∀ L' h₁, Fr s.heap L' h₁ (fun y => binds.reverse.lookup y) → News s.heap L' h₁ [] → Below A base (env :: outer) s.heap → K.In s.heap → Top p loose mean mg mb s.heap →
      wpAny (model prog w) (A.deeper (envOf qual scope L' f cdv)) (execs body (envOf qual scope L' f cdv))
        (fun fl s' => Back h₀ L m news s.heap R (match fl with | .ret v => v | _ => .none) s') (fun _ _ => False) { s with heap := h₁, toks := s.toks + binds.length })
    (hco : scope.isCoroutine = false) (hgen : scope.isGenerator = false) (hk : scope.kind = .function)
    (hcell : ∀ x ∈ scope.names, x.2 ≠ .cell) : codeAny (model prog w) A (.call (.ref f) args) R s := by
  have BP := pushX B F hf hke
  have BG : Below A base (env :: outer) s.heap := ⟨hA, BP.stays, BP.frames⟩
  refine codeAny_call_def (fd := fnOf name qual params body scope dV kV doc pm an cdv ct) (body := body) (binds := binds) hroom ((X₀.keeps F.keep) _ _ ho) rfl (T.nolimit.keeps F.keep) (codeRec_of (X₀.keeps F.keep) hcd) rfl hbind hcell hloc (fun h₁ hns hk₁ => ?_) hco hgen hk
  refine wpAny_mono (h s.heap.objs.size h₁ ⟨hns, hk₁, Nat.le_refl _⟩ News.nil BG (X₀.keeps F.keep) (T.keeps F.keep)) (fun fl s' hl => ?_) fun _ _ x => x.elim
  obtain ⟨L'', m'', F'', k⟩ := hl
  exact k (F.keeps F''.keep) (N.grown F''.keep)
theorem enterA_cells (B : Below A₀ base outer h₀) (F : Fr h₀ L s.heap m) (X₀ : K.In h₀) (N : News h₀ L s.heap news) (T : Top p loose mean mg mb h₀) (hA : A.frames = some (env :: outer)) (hf : env.frame = some L) (hke : env.scope.kind = .function)
    (ho : K.lookup f = some ⟨oc, od, .func (fnOf name qual params body scope dV kV doc pm an cdv ct), osl⟩) (hcd : codeIn K cdv qual = true) (hroom : A.depth < recursionLimit)
    (hbind : BindsTo s (fnOf name qual params body scope dV kV doc pm an cdv ct) args binds) (hkind : (binds.all fun y => scope.names.lookup y.1 == some .local || scope.names.lookup y.1 == some .cell) = true)
    (hnd : ((cellsFrom 0 scope.names []).map (·.1)).Nodup)
    (h : ∀ L' h₁ tk cells, Fr s.heap L' h₁ (bindL (envOfC qual scope L' f cdv).kindOf binds fun _ => none) → News s.heap L' h₁ cells →
      CellsAre (bindC (envOfC qual scope L' f cdv).kindOf binds fun _ => none) (cellsFrom (L' + 1) scope.names []) cells → Below A base (env :: outer) s.heap → K.In s.heap → Top p loose mean mg mb s.heap →
      wpAny (model prog w) (A.deeper (envOfC qual scope L' f cdv)) (execs body (envOfC qual scope L' f cdv))
        (fun fl s' => Back h₀ L m news s.heap R (match fl with | .ret v => v | _ => .none) s') (fun _ _ => False) { s with heap := h₁, toks := tk })
    (hco : scope.isCoroutine = false) (hgen : scope.isGenerator = false) (hk : scope.kind = .function) : codeAny (model prog w) A (.call (.ref f) args) R s := by
  have hlim := T.nolimit.keeps F.keep
  have BP := pushX B F hf hke
  have BG : Below A base (env :: outer) s.heap := ⟨hA, BP.stays, BP.frames⟩
  refine codeAny_call_function (fd := fnOf name qual params body scope dV kV doc pm an cdv ct) hroom ((X₀.keeps F.keep) _ _ ho) rfl hco hgen rfl (codeRec_of (X₀.keeps F.keep) hcd) (hbind _ _ _ _ ?_)
  refine wpAny_newFunctionEnv_cells hk (kindsX hkind _) fun env' he s' x => ?_
  subst he
  refine ⟨hlim.keeps x.toInCall.keep, codeAny_func ?_⟩
  obtain ⟨h₁, tk, rfl, _⟩ := x.done
  have hk₁ := x.toInCall.keep
  obtain ⟨cells, NC, Y⟩ := Cl.news (h₀ := s.heap) (Nat.le_refl _) fun n c hm => ⟨x.cell n c (lookup_of_mem_nodup (cellsFrom_names scope.names 0 (s.heap.objs.size + 1) [] [] rfl ▸ hnd) hm), x.above n c hm⟩
  refine wpAny_mono (h s.heap.objs.size h₁ tk cells ⟨x.toInCall.ns, hk₁, Nat.le_refl _⟩ NC Y BG (X₀.keeps F.keep) (T.keeps F.keep)) (fun fl s' hl => ?_) fun _ _ x => x.elim
  obtain ⟨L'', m'', F'', k⟩ := hl
  exact k (F.keeps F''.keep) (N.grown F''.keep)
end

/-! ## statements and expressions that hold such a call -/
section
variable {M : Model} {A : Around} {E : Value → Shared → Prop} {s : Shared} {env : Env}

theorem wpC_execs_cons {st rest} {Q : Flow → Shared → Prop}
    (h : wpC M A (exec st env) (fun f s' => match f with | .next => wpC M A (execs rest env) Q E s' | f => Q f s') E s) :
    wpC M A (execs (st :: rest) env) Q E s := by
  rw [execs_cons]
  refine wpC_bind (wpC_mono h (fun f s' h' => ?_) fun _ _ x => x)
  cases f <;> first | exact h' | exact wpC_pure h'
/-- a statement that holds no such call -/
theorem wpC_execs_any {st rest} {Q : Flow → Shared → Prop}
    (h : wpAny M A (exec st env) (fun f s' => match f with | .next => wpC M A (execs rest env) Q E s' | f => Q f s') E s) :
    wpC M A (execs (st :: rest) env) Q E s := wpC_execs_cons (wpC_of h)
theorem wpC_execs_nil {Q : Flow → Shared → Prop} (h : Q .next s) : wpC M A (execs [] env) Q E s := wpC_pure h

theorem wpC_Assign_Name {x pos' value pos} {Q : Flow → Shared → Prop}
    (h : wpC M A (eval value env) (fun v s₁ => wpAny M A (storeName env x v) (fun _ => Q .next) E s₁) E s)
    (hs : swapsWith value (some (.Name x pos')) pos.line env = pure false) :
    wpC M A (exec (.Assign [.Name x pos'] value pos) env) Q E s := by
  rw [exec_Assign_Name env x pos' value pos hs]
  refine wpC_bindA (wpAny_standAt (wpC_bind (wpC_mono h (fun v s₁ h₁ => ?_) fun _ _ x => x)))
  refine wpC_bindA (wpAny_standAt (wpC_bindA (wpAny_bindName (wpAny_mono h₁ (fun _ s₂ h₂ => wpC_pure h₂) fun _ _ x => x))))

theorem wpC_keep {α : Type} {vs : List Value} {m : Sem α} {Q : α → Shared → Prop} (h : wpC M A m Q E s) : wpC M A (m.keep vs) Q E s :=
  fun Γ p hΓ hc => by rw [Sem.wp_keep]; exact h Γ p hΓ hc

theorem wpC_callWith_type {pos : Pos} {T : String} {first : List Value} {args : List (Bool × Sem Value)} {Q : Value → Shared → Prop}
    (hplain : args.any (·.1) = false)
    (h : wpAny M A (evalArgs (.type T) true args []) (fun a s₁ => wpC M A (call (.type T) (first ++ a.pos) a.kw) Q E s₁) E s) :
    wpC M A (callWith pos (.type T) first args []) Q E s := by
  unfold callWith
  refine wpC_bindA (wpAny_holding (wpAny_mono h (fun a s₁ h₁ => wpC_bindA (wpAny_standAt ?_)) fun _ _ x => x))
  simp only [hplain, List.any_nil, Bool.or_false]
  refine wpC_bindA (wpAny_pure ?_)
  exact wpC_bind (wpC_mono h₁ (fun r s₂ hr => wpC_bindA (wpAny_holding (wpAny_point (wpC_pure hr)))) fun _ _ x => x)

theorem wpC_callWith_function {pos : Pos} {a : Addr} {o : Obj} {fd : FuncData} {first : List Value} {args : List (Bool × Sem Value)} {Q : Value → Shared → Prop} (hplain : args.any (·.1) = false)
    (h : wpAny M A (evalArgs (.ref a) true args []) (fun x s₁ => (s₁.heap.get? a = some o ∧ o.data = .func fd) ∧ wpC M A (call (.ref a) (first ++ x.pos) x.kw) Q E s₁) E s) :
    wpC M A (callWith pos (.ref a) first args []) Q E s := by
  unfold callWith
  refine wpC_bindA (wpAny_holding (wpAny_mono h (fun x s₁ h₁ => wpC_bindA (wpAny_standAt ?_)) fun _ _ x => x))
  have tail : ∀ {t : Sem Value}, wpC M A t Q E s₁ → wpC M A (t >>= fun r => holding [r] point >>= fun _ => pure r) Q E s₁ :=
    fun ht => wpC_bind (wpC_mono ht (fun r s₂ hr => wpC_bindA (wpAny_holding (wpAny_point (wpC_pure hr)))) fun _ _ x => x)
  simp only [hplain, List.any_nil, Bool.or_false]
  refine wpC_bindA (m := keeperOf (.ref a)) ?_
  unfold keeperOf
  refine wpAny_bind (wpAny_load h₁.1.1 ?_)
  rw [h₁.1.2]
  refine wpAny_pure ?_
  show wpC _ _ (if _ then _ else _) _ _ _
  split
  · exact tail h₁.2
  · exact tail (by unfold callMarked; exact wpC_keep h₁.2)

theorem eval_Call_Name (id : Str) (p : Pos) (args : List Expr) (pos : Pos) (env : Env) : eval (.Call (.Name id p) args [] pos) env = (do
    callWith pos (← eval (.Name id p) env) [] (backTo pos (starEach args env)) (backToKw pos (keywordEach [] env))) := rfl

/-- f(e, ..) of a built-in type -/
theorem wpC_Call_type {id : Str} {p pos : Pos} {e : Expr} {rest : List Expr} {T : String} {Q : Value → Shared → Prop}
    (h : wpAny M A (eval (.Name id p) env) (fun f s₁ => f = .type T ∧ wpAny M A (spliced (backTo pos (starEach (e :: rest) env))) (fun vs s₂ => wpC M A (call (.type T) vs) Q E s₂) E s₁) E s)
    (he : starEach (e :: rest) env = (false, eval e env) :: starEach rest env) (hplain : (backTo pos (starEach rest env)).any (·.1) = false) :
    wpC M A (eval (.Call (.Name id p) (e :: rest) [] pos) env) Q E s := by
  rw [eval_Call_Name]
  refine wpC_bindA (wpAny_mono h (fun f s₁ h₁ => ?_) fun _ _ x => x)
  obtain ⟨rfl, h₁⟩ := h₁
  rw [he] at h₁ ⊢
  refine wpC_callWith_type ?_ (evalArgs_plain h₁)
  show (false || (backTo pos (starEach rest env)).any (·.1)) = false
  rw [hplain]; rfl
/-- f(e, ..) of a def of the text -/
theorem wpC_Call_def {K : Frag} {id : Str} {p pos : Pos} {e : Expr} {rest : List Expr} {a : Addr} {Q : Value → Shared → Prop} {oc : Value} {od : Option Addr} {fd : FuncData} {osl : Array (Option Value)}
    (ho : K.lookup a = some ⟨oc, od, .func fd, osl⟩)
    (h : wpAny M A (eval (.Name id p) env) (fun f s₁ => f = .ref a ∧ wpAny M A (spliced (backTo pos (starEach (e :: rest) env))) (fun vs s₂ => K.In s₂.heap ∧ wpC M A (call (.ref a) vs) Q E s₂) E s₁) E s)
    (he : starEach (e :: rest) env = (false, eval e env) :: starEach rest env) (hplain : (backTo pos (starEach rest env)).any (·.1) = false) :
    wpC M A (eval (.Call (.Name id p) (e :: rest) [] pos) env) Q E s := by
  rw [eval_Call_Name]
  refine wpC_bindA (wpAny_mono h (fun f s₁ h₁ => ?_) fun _ _ x => x)
  obtain ⟨rfl, h₁⟩ := h₁
  rw [he] at h₁ ⊢
  refine wpC_callWith_function (o := ⟨oc, od, .func fd, osl⟩) (fd := fd) ?_ (evalArgs_plain (wpAny_mono h₁ (fun vs s₂ h₂ => ?_) fun _ _ x => x))
  · show (false || (backTo pos (starEach rest env)).any (·.1)) = false
    rw [hplain]; rfl
  · exact ⟨⟨h₂.1 _ _ ho, rfl⟩, h₂.2⟩
end
end Mine

/-! BaOps -/
namespace Mine
open PySem PySem.W PyProof.Rows PySem.Calls PySem.Spec
set_option maxRecDepth 100000
example : True := by (w_top off); trivial
open Sem (wp)
/-! ## ba[i] = v, bytes(ba) -/
namespace Ba
theorem slot_setitem : Slot "bytearray" "__setitem__" "bytearray.__setitem__" :=
  .of (owner := "bytearray") (n := "__setitem__") (by rw [typeLookup_type, builtinLookup_eq_fast]; kernel_rfl) (by decide +kernel) (by decide +kernel) (by decide +kernel)
    (by first | exact .inl (by decide +kernel) | exact .inr (by decide +kernel)) (by rw [isSubtype_type]; kernel_rfl)
theorem entry_setitem : entryFor table "bytearray.__setitem__" = some Builtin.«bytearray.__setitem__» := by first | exact entryFor_of_tree (by kernel_rfl) | exact entryFor_of_fast (by kernel_rfl)
theorem args_setitem (a b c : Value) : argsOk "bytearray.__setitem__" ⟨[a, b, c], []⟩ := by unfold argsOk; kernel_rfl
theorem look_buffer : typeLookup (.type "bytearray") "__buffer__" = pure (some (.builtin "bytearray.__buffer__")) := by rw [typeLookup_type, builtinLookup_eq_fast]; kernel_rfl
theorem ba_nobytes : typeLookup (.type "bytearray") "__bytes__" = pure none := by rw [typeLookup_type, builtinLookup_eq_fast]; kernel_rfl
theorem ba_noindex : typeLookup (.type "bytearray") "__index__" = pure none := by rw [typeLookup_type, builtinLookup_eq_fast]; kernel_rfl
end Ba
section
variable {prog : Program} {w : World} {A : Around} {E : Value → Shared → Prop} {s : Shared} {S : Addr} {b : Array UInt8}

theorem setItem_ba {i v : Int} {t u : Tok} {Q : Unit → Shared → Prop} (hS : s.heap.get? S = some { cls := .type "bytearray", data := .bytearray b }) (h0 : 0 ≤ i) (h1 : i < b.size) (v0 : 0 ≤ v) (v1 : v < 256) (hz : b.size ≤ 1000000)
    (h : (s.heap.update S (Obj.mapBytearray (·.setIfInBounds i.toNat v.toNat.toUInt8))).get? S = some { cls := .type "bytearray", data := .bytearray (b.setIfInBounds i.toNat v.toNat.toUInt8) } →
      Q () { s with heap := s.heap.update S (Obj.mapBytearray (·.setIfInBounds i.toNat v.toNat.toUInt8)) }) :
    wpAny (model prog w) A (setItem (.ref S) (.int i t) (.int v u)) Q E s := by
  have hT := ba_type hS
  unfold setItem
  try with_reducible refine wpAny_holding ?_
  refine wpAny_bind (wpAny_sequenceKey hT (by decide) ?_)
  refine wpAny_bind (wpAny_callSpecial?_slot (name := Str.ofString "__setitem__") hT Ba.slot_setitem
    (wpAny_call_entry Ba.slot_setitem hT Ba.entry_setitem ?_ (Ba.args_setitem _ _ _)))
  unfold Builtin.«bytearray.__setitem__»
  dsimp only
  refine bm_if_false rfl ?_
  refine wpAny_bind ?_
  unfold Builtin.Bytes.subscript?
  refine wpAny_bind (wpAny_specialOf_val (rfl : typeOf (.int i t) = pure (.type "int")) Ba.int_index ?_)
  refine bm_if_false rfl ?_
  refine wpAny_bind (wpAny_of_eq (rfl : asIndex (.int i t) = pure i) ?_)
  have f1 : Builtin.Bytes.fitsIndex i = true := by
    unfold Builtin.Bytes.fitsIndex
    simp only [Bool.and_eq_true, decide_eq_true_eq]
    omega
  refine bm_if_false (by rw [f1]; rfl) ?_
  refine wpAny_pure ?_
  dsimp only
  refine wpAny_bind ?_
  unfold Builtin.Bytes.byteValue
  refine wpAny_bind (wpAny_of_eq (rfl : asIndex (.int v u) = pure v) ?_)
  refine bm_if_false (by simp only [Bool.or_eq_false_iff, decide_eq_false_iff_not]; omega) ?_
  refine wpAny_pure ?_
  refine wpAny_bind ?_
  unfold Builtin.Bytes.payload Builtin.Bytes.payload?
  refine wpAny_bind (wpAny_bind (wpAny_load hS ?_))
  refine wpAny_pure (wpAny_pure ?_)
  have f2 : seqIndex? i b.size = some i.toNat := by
    unfold seqIndex?
    first
      | (simp only []; split <;> first | omega | (split <;> first | omega | rfl))
      | (simp; omega)
  rw [f2]
  dsimp only
  refine wpAny_bind (wpAny_write hS (b' := b.setIfInBounds i.toNat v.toNat.toUInt8) rfl (by rw [Array.size_setIfInBounds, sizeLine_eq]; omega) fun hS₂ => ?_)
  refine wpAny_pure ⟨_, rfl, wpAny_pure (h hS₂)⟩

theorem bytes_ba {Q : Value → Shared → Prop} (hS : s.heap.get? S = some { cls := .type "bytearray", data := .bytearray b }) (hz : b.size ≤ 1000000)
    (hQ : ∀ t k, Q (.bytes b t) { s with toks := k }) : wpAny (model prog w) A (call (.type "bytes") [.ref S]) Q E s := by
  have hT := ba_type hS
  refine callType_codes (Q₁ := fun obj s₁ => s₁.TypeIs obj "bytes" ∧ Q obj s₁) F.bm_called (F.bm_typeCall _) F.entry_object_init ?_ fun obj s₁ h₁ => ?_
  rotate_left
  · exact ⟨h₁.1, F.args_object_init_2 obj _, object_init_meets F.bm_called.init.lookup F.bm_called.made (by decide) prog w A.in1 _ s₁ ⟨h₁.1, rfl, h₁.2⟩⟩
  refine codeAny_of_tree ?_
  show wpAny _ A.in1.in1 (do checkBuiltinCall "bytes.__new__" ⟨[.type "bytes", .ref S], []⟩; again (.builtin "bytes.__new__" ⟨[.type "bytes", .ref S], []⟩)) _ _ s
  refine wpAny_bind (wpAny_of_eq (F.bm_newCall _) (wpAny_pure ⟨plainId_quiet F.bm_plain _, codeAny_builtin F.bm_entry ?_⟩))
  rw [Around.under_plainId F.bm_plain _]
  unfold Builtin.«bytes.__new__»
  refine wpAny_bind (wpAny_of_eq (a := true) rfl ?_)
  refine bm_if_false rfl ?_
  refine wpAny_bind (wpAny_of_eq F.bm_sub ?_)
  refine bm_if_false rfl ?_
  refine wpAny_bind (wpAny_of_eq (F.bm_bind _) ?_)
  refine wpAny_bind (wpAny_of_eq (a := ()) rfl ?_)
  refine wpAny_bind (wpAny_of_eq (a := ()) rfl ?_)
  refine bm_if_false rfl ?_
  refine wpAny_bind (wpAny_specialOf hT Ba.ba_nobytes ?_)
  refine wpAny_bind (wpAny_bind ?_)
  show wpAny _ _ (load S >>= _) _ _ _
  refine wpAny_bind (wpAny_load hS ?_)
  refine wpAny_pure (wpAny_pure ?_)
  refine bm_if_false rfl ?_
  refine wpAny_bind (wpAny_specialOf hT Ba.ba_noindex ?_)
  refine bm_if_true rfl ?_
  refine wpAny_bind ?_
  unfold Builtin.Bytes.buffer?
  refine wpAny_bind (wpAny_specialOf hT Ba.look_buffer ?_)
  dsimp only
  have own : ∀ {Q' : Bool → Shared → Prop} {E' : Value → Shared → Prop}, Q' true s → wpAny (model prog w) A.in1.in1 (Builtin.Bytes.slotIsOwn (.ref S) "__buffer__") Q' E' s := by
    intro Q' E' hq
    unfold Builtin.Bytes.slotIsOwn
    refine wpAny_bind (wpAny_specialOf hT Ba.look_buffer ?_)
    dsimp only
    have h1 : (!("bytearray.__buffer__".endsWith ("." ++ "__buffer__"))) = false := by decide +kernel
    have h2 : ("bytearray.__buffer__".dropRight ("__buffer__".length + 1)) = "bytearray" := by decide +kernel
    rw [h1, h2]
    exact wpAny_isInstance hT Ba.sub_self hq
  refine wpAny_bind (own ?_)
  refine bm_if_false rfl ?_
  refine wpAny_bind (wpAny_specialOf hT Ba.look_buffer ?_)
  refine wpAny_bind (ownRelease_ba hT ?_)
  refine bm_if_false rfl ?_
  refine wpAny_bind ?_
  unfold Builtin.Bytes.payload Builtin.Bytes.payload?
  refine wpAny_bind (wpAny_bind (wpAny_load hS ?_))
  refine wpAny_pure (wpAny_pure ?_)
  refine wpAny_pure ?_
  dsimp only
  refine wpAny_bind (wpAny_rule ?_)
  refine wpAny_bind (wpAny_mkBytes ?_ (by rw [sizeLine_eq]; omega))
  show wpAny _ _ (if (Value.type "bytes" == Value.type "bytes") = true then _ else _) _ _ _
  refine bm_if_true (by decide) ?_
  first
    | exact wpAny_pure ⟨typeIs_bytes _ _ _, hQ _ _⟩
    | exact wpAny_bind (wpAny_pure (wpAny_pure ⟨typeIs_bytes _ _ _, hQ _ _⟩))
end
end Mine

/-! Loops -/
namespace Mine
open PySem PySem.W PyProof.Rows PySem.Calls PySem.Spec
set_option maxRecDepth 100000
example : True := by (w_top off); trivial
/-! ## loops: tools -/
/-- a mark at which the walk stops -/
def Stop (P : Prop) : Prop := P
theorem wpAny_stop {α : Type} {M : Model} {A : Around} {t : Sem α} {Q : α → Shared → Prop} {E : Value → Shared → Prop} {s : Shared} (h : wpAny M A t (fun v s' => Stop (Q v s')) E s) : wpAny M A t Q E s := h
theorem map_known {m : Str → Option Value} (ps : List (Str × Value)) (h : ∀ p ∈ ps, m p.1 = some p.2) : m = kstB m ps := by
  funext z; exact (kstB_eq h (fun _ => rfl)).symm

theorem rangeSize_mul {q k : Nat} (k0 : 0 < k) : Builtin.Range.rangeSize 0 ((q * k : Nat) : Int) (k : Int) = (q : Int) := by
  unfold Builtin.Range.rangeSize
  rw [if_pos (by omega)]
  cases q with
  | zero => rw [if_neg (by omega)]; rfl
  | succ p =>
    have e : ((p + 1) * k : Nat) = p * k + k := Nat.succ_mul p k
    rw [if_pos (by rw [e]; omega)]
    have e2 : (((p + 1) * k : Nat) : Int) - 0 - 1 = ((k : Int) - 1) + (p : Int) * (k : Int) := by
      rw [e]; push_cast; omega
    rw [e2, Int.add_mul_ediv_right _ _ (by omega), Int.ediv_eq_zero_of_lt (by omega) (by omega)]
    push_cast; omega
theorem small_mul {q k : Nat} (k0 : 0 < k) (hk : k ≤ 1000000) (h : q * k ≤ 1000000) : Builtin.Range.small 0 ((q * k : Nat) : Int) (k : Int) = true := by
  unfold Builtin.Range.small
  rw [rangeSize_mul k0]
  have hq : q ≤ q * k := Nat.le_mul_of_pos_right q k0
  have f : ∀ i : Int, 0 ≤ i → i ≤ 4000000 → Builtin.Range.rangeFitsLong i = true := fun i a b => by
    unfold Builtin.Range.rangeFitsLong
    simp only [Bool.and_eq_true, decide_eq_true_eq]; omega
  rw [f 0 (by omega) (by omega), f _ (by omega) (by omega), f _ (by omega) (by omega), f _ (by omega) (by omega)]
  rw [if_pos (by omega), f _ (by omega) (by omega)]
  simp
theorem rangeSize_up {n : Nat} : Builtin.Range.rangeSize 0 (n : Int) 1 = (n : Int) := by
  have := rangeSize_mul (q := n) (k := 1) (by omega)
  rw [Nat.mul_one] at this; exact this
theorem small_up {n : Nat} (h : n ≤ 1000000) : Builtin.Range.small 0 (n : Int) 1 = true := by
  have := small_mul (q := n) (k := 1) (by omega) (by omega) (by omega)
  rw [Nat.mul_one] at this; exact this

section
variable {prog : Program} {w : World} {A : Around} {E : Value → Shared → Prop} {s : Shared} {env : Env} {h₀ : Heap} {x : Str} {body : List Stmt} {Q : Flow → Shared → Prop} {m₀ : Str → Option Value} {news : List (Addr × Obj)}
theorem iter_range {r : Addr} {a b c : Int} {t₀ u₀ v₀ : Tok} {n : Nat} (J : Nat → (Str → Option Value) → List (Addr × Obj) → Prop)
    (hh : A.handled = none) (hr : IsRange s.heap r a b c t₀ u₀ v₀) (hsm : Builtin.Range.small a b c = true) (hn : Builtin.Range.rangeSize a b c = (n : Int)) (F : Fr h₀ env.locals s.heap m₀) (N : News h₀ env.locals s.heap news) (hj : J 0 m₀ news)
    (turn : ∀ i t m₁ news₁ h tk own, i < n → news₁.map (·.1) = news.map (·.1) → OwnOff own (news.map (·.1)) → J i m₁ news₁ → Fr h₀ env.locals h (fun y => if y = x then some (.int (a + (i : Int) * c) t) else m₁ y) → News h₀ env.locals h (news₁ ++ own) →
      wpAny (model prog w) A (execs body env) (InvPostN h₀ env.locals (J (i + 1)) own (news.map (·.1)) { s with heap := h, toks := tk } Q) E { s with heap := h, toks := tk })
    (done : ∀ m₁ news₁ h tk, J n m₁ news₁ → Fr h₀ env.locals h m₁ → News h₀ env.locals h news₁ → Q .next { s with heap := h, toks := tk }) :
    wpAny (model prog w) A (pyIter (.ref r)) (fun it s₂ => LoopAtV prog w A h₀ env x body Q E it s₂) E s := by
  refine wpAny_pyIter_range hr hsm ?_
  have W : Walks prog w A s.heap.objs.size [s.heap.objs.size] [s.heap.objs.size] n (fun i v => i < n ∧ ∃ t, v = .int (a + i * c) t)
      (fun i h => IsRangeIter h s.heap.objs.size (a + (i : Nat) * c) ((n : Int) - (i : Nat)) c) := (Walks.range hh _ a c n).bound
  refine loop_invN J W ?_ ?_ ?_ ?_ (by show IsRangeIter _ _ _ _ _; rw [hn]; simpa using Heap.get?_push_size _ rfl) (F.push _) (fun p hp => ⟨Heap.get?_push_of_some _ (N p hp).1, (N p hp).2⟩) hj ?_ ?_
  · intro hm
    exact absurd F.ns.lt ((List.mem_singleton.mp hm) ▸ Nat.lt_irrefl _)
  · intro b hb
    rw [List.mem_singleton.mp hb]
    exact next_is_new F
  · intro p hp hI
    exact absurd (Heap.lt_size (N p hp).1) ((List.mem_singleton.mp hI) ▸ Nat.lt_irrefl _)
  · intro p hp hI
    exact absurd (Heap.lt_size (N p hp).1) ((List.mem_singleton.mp hI) ▸ Nat.lt_irrefl _)
  · rintro i v m₁ nx h tk own hi ⟨_, t, rfl⟩ ha hoff hJ F₁ N₁
    exact turn i t m₁ nx h tk own hi ha hoff hJ F₁ N₁
  · intro m₁ nx h tk hJ F₁ N₁
    exact done m₁ nx h tk hJ F₁ N₁
end
end Mine

/-! Swap -/
namespace Mine
open PySem PySem.W PyProof.Rows PySem.Calls PySem.Spec
set_option maxRecDepth 100000
set_option maxHeartbeats 8000000
set_option pp.maxSteps 20000
set_option pp.deepTerms false
set_option pp.deepTerms.threshold 4
example : True := by (w_top off); trivial
example : ((∀ P h, (hd.heap_39 P).In h → PySem.Challenge.rw_wo0013_01.Holds) → True) := by k_fill; intro _; trivial

/-! ## _byteswap -/
abbrev baOf (zs : List Int) : Obj := { cls := .type "bytearray", data := .bytearray (byteArr zs) }
def innerL (ns : List Int) (i k : Nat) : Nat → List Int → List Int
  | 0, zs => zs
  | j + 1, zs => (innerL ns i k j zs).set (i + k - 1 - j) (ns.getD (i + j) 0)
def outerL (ns : List Int) (k : Nat) : Nat → List Int
  | 0 => List.replicate ns.length 0
  | q + 1 => innerL ns (q * k) k k (outerL ns k q)
theorem innerL_length (ns : List Int) (i k : Nat) : ∀ j zs, (innerL ns i k j zs).length = zs.length
  | 0, _ => rfl
  | j + 1, zs => by rw [innerL, List.length_set]; exact innerL_length ns i k j zs
theorem outerL_length (ns : List Int) (k : Nat) : ∀ q, (outerL ns k q).length = ns.length
  | 0 => List.length_replicate
  | q + 1 => by rw [outerL, innerL_length]; exact outerL_length ns k q
theorem byteArr_zero (n : Nat) : Array.replicate n 0 = byteArr (List.replicate n 0) := by
  unfold byteArr
  rw [List.map_replicate]
  simp
theorem byteArr_set (zs : List Int) (i : Nat) (v : Int) : (byteArr zs).setIfInBounds i v.toNat.toUInt8 = byteArr (zs.set i v) := by
  unfold byteArr
  rw [List.map_set]
  simp

theorem swap_spec {prog : Program} (w : World) {mean : ExcName → Option Value} {mg mb : Str → Option Value} (dp un : Nat) (gd : Option (List Code)) (cn : Str) (cs : Scope) (a : Addr) (ccd : Value) (cl : List (Str × Addr)) (outer : List Env) (A₀ : Around) (base h₀ : Heap) (L : Addr) (m : Str → Option Value)
    (news : List (Addr × Obj)) (s : Shared) (ns : List Int) (t : Tok) (k q : Nat) (tk : Tok) (Q E : Value → Shared → Prop)
    (B : Below A₀ base outer h₀) (F : Fr h₀ L s.heap m) (X : (hd.heap_39 w.params).In h₀) (N : News h₀ L s.heap news) (T : Top hd.view_39 (looseW hd.view_39 []) mean mg mb h₀) (hk : cs.kind = .function)
    (hd : dp + 1 < recursionLimit) (hu : un + 8 < cLine) (k0 : 0 < k) (hr : KBa.In ns) (hl : ns.length = q * k) (hz : ns.length ≤ 1000) (hkz : k ≤ 1000)
    (ret : ∀ t h' tk', Fr h₀ L h' m → News h₀ L h' news → Q (.bytes (byteArr (outerL ns k q)) t) { s with heap := h', toks := tk' }) :
    wpC (model prog w) (ktrTop dp un gd cn cs L a ccd cl outer) (call (.ref 63) [.bytes (byteArr ns) t, .int k tk]) Q E s := by
  refine wpC_call ?_
  (refine' enterC ?k1 ?k2 ?k3 ?k4 ?k5 ?kA ?kF ?kK ?k6 ?k7 ?k8 ?k9 ?kB ?_ ?c2 ?c3 ?c4 ?c5; (case kA => exact rfl); (case kF => exact rfl); (case kK => assumption); (case k1 => k_asm); (case k2 => k_asm); (case k3 => k_asm); (case k4 => k_asm); (case k5 => k_asm); (case k6 => k_is); (case k7 => k_is); (case k8 => ktr_room); (case k9 => exact BindsTo.of_eq rfl); (case c5 => decide); (case kB => exact locs rfl); (case c2 => exact rfl); (case c3 => exact rfl); (case c4 => exact rfl); k_whole; intro L' h' F' N' B' X' T'; (try dsimp only))
  have hsz : (byteArr ns).size = ns.length := byteArr_size ns
  have hks : KBw.bInts (byteArr ns) = ns := KBa.ints_make hr
  refine wpC_execs_cons (wpC_Assign_Name (wpC_Call_type (T := "bytearray") ?_ rfl rfl) rfl)
  walk1
  refine ⟨rfl, ?_⟩
  k_steps
  refine wpC_bytearray (by omega) (by omega) fun h1 kp1 hb1 => ?_
  dsimp only at kp1 hb1 ⊢
  rename Fr s.heap _ _ _ => F'
  generalize hS : h'.objs.size = S at *
  have hS0 : s.heap.get? S = none := hS ▸ next_is_new F'
  have F1 := F'.keeps kp1
  have N1 : News s.heap L' h1 [(S, baOf (List.replicate ns.length 0))] := fun p hp => by
    rw [List.mem_singleton.mp hp]
    refine ⟨?_, fun e => ?_, hS0⟩
    · refine hb1.trans ?_
      rw [Int.toNat_natCast, byteArr_zero]
    · exact absurd F'.ns.lt (by rw [← e, ← hS]; exact Nat.lt_irrefl _)
  clear kp1 hb1
  k_steps
  rename Fr s.heap _ _ _ => F2
  rename News s.heap _ _ _ => N2
  refine wpC_execs_any (For_invV s.heap rfl rfl (wpAny_stop ?_) (hE := PassesOwn.never))
  k_steps
  rename Fr s.heap _ _ _ => F3
  rename News s.heap _ _ _ => N3
  rename IsRange _ _ _ _ _ _ _ _ => R3
  show wpAny _ _ (pyIter _) _ _ _
  refine iter_range (n := q) (fun i m₁ nx => nx = [(S, baOf (outerL ns k i))] ∧ m₁ "data" = some (.bytes (byteArr ns) t) ∧ m₁ "width" = some (.int k tk) ∧ m₁ "swapped_data" = some (.ref S)) rfl R3
    (by rw [hl]; exact small_mul k0 (by omega) (by omega)) (by rw [hl]; exact rangeSize_mul k0) F3 N3 ⟨rfl, rfl, rfl, rfl⟩ ?_ ?_
  · rintro i ti m₁ nx h4 tk4 own hi ha hoff ⟨rfl, e1, e2, e3⟩ F4 N4
    rw [map_known (m := m₁) [("data", .bytes (byteArr ns) t), ("width", .int k tk), ("swapped_data", .ref S)] (by intro p hp; simp only [List.mem_cons, List.not_mem_nil, or_false] at hp; rcases hp with rfl | rfl | rfl <;> assumption)] at F4
    obtain ⟨c, hc⟩ : ∃ c : Nat, c = i * k := ⟨_, rfl⟩
    have hcI : (0 + (i : Int) * (k : Int)) = (c : Int) := by rw [hc]; push_cast; omega
    have hck : c + k ≤ ns.length := by rw [hl, hc]; have := Nat.mul_le_mul_right k hi; rw [Nat.succ_mul] at this; exact this
    rw [hcI] at F4
    change Fr s.heap L' h4 _ at F4
    change News s.heap L' h4 ((S, baOf (outerL ns k i)) :: own) at N4
    have hoff' : ∀ p ∈ own, p.1 ≠ S := fun p hp => hoff p hp S (List.mem_cons_self ..)
    clear F3 N3 R3
    refine wpAny_execs_cons (For_invV s.heap rfl rfl (wpAny_stop ?_) (hE := PassesOwn.never))
    k_steps
    rename Fr s.heap _ _ _ => F5
    rename News s.heap _ _ _ => N5
    rename IsRange _ _ _ _ _ _ _ _ => R5
    show wpAny _ _ (pyIter _) _ _ _
    refine iter_range (n := k) (fun j m₁ nx => nx = (S, baOf (innerL ns c k j (outerL ns k i))) :: own ∧ m₁ "data" = some (.bytes (byteArr ns) t) ∧ m₁ "width" = some (.int k tk) ∧ m₁ "swapped_data" = some (.ref S) ∧ ∃ ti, m₁ "i" = some (.int c ti)) rfl R5
      (small_up (by omega)) rangeSize_up F5 N5 ⟨rfl, rfl, rfl, rfl, _, rfl⟩ ?_ ?_
    · rintro j tj m₂ nx h6 tk6 own2 hj ha2 hoff2 ⟨rfl, e1, e2, e3, ti, e4⟩ F6 N6
      rw [map_known (m := m₂) [("data", .bytes (byteArr ns) t), ("width", .int k tk), ("swapped_data", .ref S), ("i", .int c ti)] (by intro p hp; simp only [List.mem_cons, List.not_mem_nil, or_false] at hp; rcases hp with rfl | rfl | rfl | rfl <;> assumption)] at F6
      rw [show (0 + (j : Int) * 1) = (j : Int) by omega] at F6
      change Fr s.heap L' h6 _ at F6
      change News s.heap L' h6 ((S, baOf (innerL ns c k j (outerL ns k i))) :: (own ++ own2)) at N6
      clear F5 N5 R5
      k_steps
      have hS6 := (N6 _ (List.mem_cons_self ..)).1
      rename 0 ≤ ns.getD _ _ => lo6
      rename ns.getD _ _ < 256 => hi6
      have lz : (byteArr (innerL ns c k j (outerL ns k i))).size = ns.length := by rw [byteArr_size, innerL_length, outerL_length]
      have ix1 : ((c : Int) + (j : Int)).toNat = c + j := by omega
      have ix2 : ((c : Int) + (k : Int) - 1 - (j : Int)).toNat = c + k - 1 - j := by omega
      refine setItem_ba hS6 (by omega) (by rw [lz]; omega) lo6 hi6 (by rw [lz]; omega) fun _ => ?_
      obtain ⟨F7, N7⟩ := news_upd (pre := []) (o' := baOf (innerL ns c k (j + 1) (outerL ns k i))) (f := Obj.mapBytearray (·.setIfInBounds ((c : Int) + (k : Int) - 1 - (j : Int)).toNat (ns.getD ((c : Int) + (j : Int)).toNat 0).toNat.toUInt8)) F6 N6 (fun _ h => nomatch h)
        (fun p hp => (List.mem_append.mp hp).elim (hoff' p) fun hp => hoff2 p hp S (List.mem_cons_self ..))
        (by show ({ cls := _, data := .bytearray ((byteArr (innerL ns c k j (outerL ns k i))).setIfInBounds _ _) } : Obj) = _; rw [byteArr_set, ix1, ix2]; rfl) rfl
      refine wpAny_execs_nil ?_
      exact InvEndN.intro F7 N7 ⟨rfl, rfl, rfl, rfl, _, rfl⟩ rfl (fun p hp => by
        rcases List.mem_cons.mp hp with rfl | hp
        · exact List.mem_cons_self ..
        · exact List.mem_cons_of_mem _ (List.mem_append_left _ hp)) (fun p hp => List.mem_cons_of_mem _ (List.mem_append_right _ hp))
    · rintro m₂ nx h6 tk6 ⟨rfl, e1, e2, e3, ti, e4⟩ F6 N6
      refine wpAny_execs_nil ?_
      refine InvEndN.intro (nx := [(S, baOf (outerL ns k (i + 1)))]) F6 N6 ⟨rfl, e1, e2, e3⟩ rfl (fun p hp => ?_) (fun p hp => List.mem_cons_of_mem _ hp)
      rw [List.mem_singleton.mp hp, outerL, hc]
      exact List.mem_cons_self ..
  · rintro m₁ nx h4 tk4 ⟨rfl, e1, e2, e3⟩ F4 N4
    rw [map_known (m := m₁) [("data", .bytes (byteArr ns) t), ("width", .int k tk), ("swapped_data", .ref S)] (by intro p hp; simp only [List.mem_cons, List.not_mem_nil, or_false] at hp; rcases hp with rfl | rfl | rfl <;> assumption)] at F4
    change Fr s.heap L' h4 _ at F4
    change News s.heap L' h4 [(S, baOf (outerL ns k q))] at N4
    dsimp only
    clear F3 N3 R3
    refine wpC_execs_any (wpAny_stop ?_)
    k_steps
    refine bytes_ba (N4 _ (List.mem_singleton.mpr rfl)).1 (by rw [byteArr_size, outerL_length]; omega) fun t7 k7 => ?_
    exact ⟨L', _, F4, fun FB NB => ret _ _ _ FB NB⟩
end Mine

/-! TxtL -/
namespace Mine
open PySem PySem.W PyProof.Rows PySem.Calls PySem.Spec
set_option maxRecDepth 100000
example : True := by (w_top off); trivial
/-! ## texts: replace of one sign, plain -/
def sub1 (c : Nat) (z l : List Nat) : List Nat := l.flatMap fun d => if d = c then z else [d]
theorem sub1_nil (c z) : sub1 c z [] = [] := rfl
theorem sub1_append (c z) (a b : List Nat) : sub1 c z (a ++ b) = sub1 c z a ++ sub1 c z b := List.flatMap_append
theorem sub1_free {c : Nat} {z : List Nat} : ∀ {l : List Nat}, c ∉ l → sub1 c z l = l
  | [], _ => rfl
  | d :: l, h => by
    have hd : d ≠ c := fun e => h (e ▸ List.mem_cons_self ..)
    have hl := sub1_free (z := z) (l := l) fun m => h (List.mem_cons_of_mem _ m)
    show (if d = c then z else [d]) ++ sub1 c z l = d :: l
    rw [if_neg hd, hl]; rfl
theorem sub1_self (c : Nat) (z : List Nat) : sub1 c z [c] = z := by simp [sub1]
theorem sub1_flatMap {α : Type} (c : Nat) (z : List Nat) (l : List α) (f : α → List Nat) : sub1 c z (l.flatMap f) = l.flatMap fun a => sub1 c z (f a) := by
  unfold sub1; exact List.flatMap_assoc
theorem join_list (y : Str) : ∀ (p : Str) (ps : List Str), (Str.join y (p :: ps)).cps.toList = p.cps.toList ++ ps.flatMap fun q => y.cps.toList ++ q.cps.toList
  | p, [] => by simp [Str.join]
  | p, q :: ps => by
    have ih := join_list y q ps
    show (p.append y |>.append (Str.join y (q :: ps))).cps.toList = _
    simp only [Str.append, Array.toList_append, ih, List.flatMap_cons, List.append_assoc]
theorem replace_sub (x z : Str) (c : Nat) : Txt.replace x ⟨#[c]⟩ z = ⟨(sub1 c z.cps.toList x.cps.toList).toArray⟩ := by
  rw [StrLaws.replace_one]
  have hj := StrLaws.join_split x ⟨#[c]⟩
  have hf := StrLaws.split_free x c
  generalize Txt.split x ⟨#[c]⟩ = ps at hj hf
  subst hj
  refine Str.ext' ?_
  rw [← Array.toList_inj]
  show _ = sub1 _ _ _
  cases ps with
  | nil => rfl
  | cons p ps =>
    rw [join_list, join_list, sub1_append, sub1_free (hf p (List.mem_cons_self ..)), sub1_flatMap]
    congr 1
    have hf' : ∀ q ∈ ps, c ∉ q.cps.toList := fun q hq => hf q (List.mem_cons_of_mem _ hq)
    clear hf
    induction ps with
    | nil => rfl
    | cons q ps ih =>
      rw [List.flatMap_cons, List.flatMap_cons, ih fun r hr => hf' r (List.mem_cons_of_mem _ hr), sub1_append, sub1_free (hf' q (List.mem_cons_self ..))]
      congr 1
      show _ = sub1 c z.cps.toList [c] ++ _
      rw [sub1_self]
theorem contains_sub {x z : Str} {c : Nat} (h : Txt.contains x ⟨#[c]⟩ = false) : Txt.replace x ⟨#[c]⟩ z = x := by
  have h' : (!(Builtin.Str.occurrences x ⟨#[c]⟩ 0 x.length 1).isEmpty) = false := h
  rw [StrLaws.found_one, decide_eq_false_iff_not] at h'
  rw [replace_sub, sub1_free h']
end Mine

/-! Esc -/
namespace Mine
open PySem PySem.W PyProof.Rows PySem.Calls PySem.Spec
set_option maxRecDepth 100000
set_option maxHeartbeats 8000000
set_option pp.maxSteps 20000
set_option pp.deepTerms false
set_option pp.deepTerms.threshold 4
example : True := by (w_top off); trivial
abbrev escSC : Scope := { kind := .function, names := [(Str.ofString "text", .local), (Str.ofString "TypeError", .globalImplicit), (Str.ofString "AttributeError", .globalImplicit), (Str.ofString "_raise_serialization_error", .globalImplicit)], isGenerator := false, isCoroutine := false, more := [] }
theorem if_rep {prog : Program} {w : World} {A : Around} {g : Heap} {L' fa : Addr} {mm : Str → Option Value} {qual : Str} {cd : Value} {s : Shared} {x c r : Str} {t : Tok} {Q : Flow → Shared → Prop} {E : Value → Shared → Prop} {p0 p1 p2 p3 p4 p5 p6 p7 p8 p9 p10 : Pos} {k0 k1 k2 : Nat}
    {mean : ExcName → Option Value} {mg mb : Str → Option Value}
    (F : Fr g L' s.heap mm) (X : (hd.heap_39 w.params).In g) (N : News g L' s.heap []) (T : Top hd.view_39 (looseW hd.view_39 []) mean mg mb g)
    (hv : mm "text" = some (.str x t)) (hlen : x.length ≤ 1048576) (hcr : (c == r) = false) (hr : r.length ≤ 14) (c1 : Nat) (hc : c = ⟨#[c1]⟩) 
    {pl : Sem Bool} (he : eval (.Call (.Attribute (.Name "text" p4) "replace" p5) [.Constant (.str c) k1 p6, .Constant (.str r) k2 p7] [] p8) (envOf qual escSC L' fa cd) = (do
      let ov ← eval (.Name "text" p4) (envOf qual escSC L' fa cd)
      standAt p5.atName
      let (f, first) ← holding [ov] (getMethod ov "replace" pl)
      callWith p8 f first (backTo p8 (starEach [.Constant (.str c) k1 p6, .Constant (.str r) k2 p7] (envOf qual escSC L' fa cd))) []))
    (ret : ∀ t' h' tk', Fr g L' h' (fun y => if y = "text" then some (.str (Txt.replace x c r) t') else mm y) → News g L' h' [] → Q .next { s with heap := h', toks := tk' }) :
    wpAny (model prog w) A (exec (.If (.Compare (.Constant (.str c) k0 p0) [.In] [.Name "text" p1] p2) [.Assign [.Name "text" p3] (.Call (.Attribute (.Name "text" p4) "replace" p5) [.Constant (.str c) k1 p6, .Constant (.str r) k2 p7] [] p8) p9] [] p10) (envOf qual escSC L' fa cd)) Q E s := by
  refine wpAny_If (wpAny_isTrue_Compare1 (Calls.Constant_str (ld F hv ?_)))
  refine wpAny_stop ?_
  k_steps
  subst hc
  refine wpAny_of_eq (rfl : truthy (.bool _) = pure _) ?_
  have em : mm = fun (y : Str) => if y = Str.ofString "text" then some (.str x t) else mm y := by
    funext y
    by_cases h : y = ("text" : Str)
    · rw [if_pos h, h, hv]
    · rw [if_neg h]
  cases hb : (!(Builtin.Str.occurrences x ⟨#[c1]⟩ 0 x.length 1).isEmpty)
  · refine wpAny_execs_nil ?_
    have hrep : Txt.replace x ⟨#[c1]⟩ r = x := contains_sub hb
    rw [hrep] at ret
    exact ret t _ _ (em ▸ F) N
  · rw [em] at F
    refine wpAny_execs_cons (wpAny_Assign_Name ?_ rfl)
    refine MethodCall_ (ld F rfl (GM.replace ?_)) he
    refine Calls.callWith_builtin rfl (Calls.evalArgs_plain (Calls.spliced_cons (Calls.Constant_str (k := k1) (pos := p6) ?_)))
    refine Calls.spliced_cons (Calls.Constant_str (k := k2) (pos := p7) (Calls.spliced_nil ?_))
    show wpAny _ _ (call (.builtin "str.replace") [.str x t, .str ⟨#[c1]⟩ (s.toks + 1), .str r (s.toks + 1 + 1)]) _ _ _
    refine SC.replaceW (Nat.succ_ne_zero _) (Nat.succ_ne_zero _) (Nat.ne_of_lt (Nat.lt_succ_self _)) hcr hlen hr fun t9 k9 => ?_
    refine storeX_L (cl := []) F N fun h' F' N' => ?_
    refine wpAny_execs_nil ?_
    refine ret t9 _ _ ?_ N'
    have e2 : (fun y : Str => if y = Str.ofString "text" then some (Value.str (Txt.replace x ⟨#[c1]⟩ r) t9) else if y = Str.ofString "text" then some (Value.str x t) else mm y) = fun y => if y = Str.ofString "text" then some (Value.str (Txt.replace x ⟨#[c1]⟩ r) t9) else mm y := by
      funext y; split <;> rfl
    rw [e2] at F'
    exact F'

/-- several replaces, one behind the other -/
def stage (ps : List (Nat × List Nat)) (x : List Nat) : List Nat := ps.foldl (fun x p => sub1 p.1 p.2 x) x
theorem stage_append : ∀ (ps : List (Nat × List Nat)) (a b : List Nat), stage ps (a ++ b) = stage ps a ++ stage ps b
  | [], _, _ => rfl
  | p :: ps, a, b => by
    show stage ps (sub1 p.1 p.2 (a ++ b)) = _
    rw [sub1_append, stage_append ps]; rfl
theorem stage_nil : ∀ (ps : List (Nat × List Nat)), stage ps [] = []
  | [] => rfl
  | p :: ps => stage_nil ps
theorem stage_each (ps : List (Nat × List Nat)) : ∀ l : List Nat, stage ps l = l.flatMap fun d => stage ps [d]
  | [] => stage_nil ps
  | d :: l => by rw [List.flatMap_cons, ← stage_each ps l, ← stage_append]; rfl
def psA : List (Nat × List Nat) := [(38, [38, 97, 109, 112, 59]), (60, [38, 108, 116, 59]), (62, [38, 103, 116, 59]), (34, [38, 113, 117, 111, 116, 59]), (13, [38, 35, 49, 51, 59]), (10, [38, 35, 49, 48, 59]), (9, [38, 35, 48, 57, 59])]
def psC : List (Nat × List Nat) := [(38, [38, 97, 109, 112, 59]), (60, [38, 108, 116, 59]), (34, [38, 113, 117, 111, 116, 59]), (9, [38, 35, 120, 57, 59]), (10, [38, 35, 120, 65, 59]), (13, [38, 35, 120, 68, 59])]
def four : List Nat := [38, 13, 10, 9]
theorem flat_len {f : Nat → List Nat} {n : Nat} : ∀ {l : List Nat}, (∀ d ∈ l, (f d).length ≤ n) → (l.flatMap f).length ≤ n * l.length
  | [], _ => by simp
  | d :: l, h => by
    have h1 := h d (List.mem_cons_self ..)
    have h2 := flat_len (f := f) (n := n) (l := l) fun e he => h e (List.mem_cons_of_mem _ he)
    rw [List.flatMap_cons, List.length_append, List.length_cons, Nat.mul_succ]; omega
theorem stage_len {ps : List (Nat × List Nat)} {l : List Nat} (h4 : ∀ d ∈ l, d ∈ four) (hl : l.length ≤ 100) (h : (four.all fun d => decide ((stage ps [d]).length ≤ 6)) = true) (ht : (stage ps [60, 62, 34]).length ≤ 100) :
    (⟨(stage ps (l ++ [60, 62, 34])).toArray⟩ : Str).length ≤ 1048576 := by
  show (stage ps (l ++ [60, 62, 34])).toArray.size ≤ _
  rw [List.size_toArray, stage_append, List.length_append, stage_each]
  have := flat_len (f := fun d => stage ps [d]) (n := 6) (l := l) fun d hd => of_decide_eq_true (List.all_eq_true.mp h d (h4 d hd))
  omega
theorem rep_stage {ps : List (Nat × List Nat)} {x : List Nat} {c : Nat} {z : List Nat} {r : Str} (hz : r.cps.toList = z) :
    Txt.replace ⟨(stage ps x).toArray⟩ ⟨#[c]⟩ r = ⟨(stage (ps ++ [(c, z)]) x).toArray⟩ := by
  rw [replace_sub, hz]
  unfold stage
  rw [List.foldl_append]; rfl

theorem esc_spec {prog : Program} (w : World) {mean : ExcName → Option Value} {mg mb : Str → Option Value} (dp un : Nat) (gd : Option (List Code)) (cn : Str) (cs : Scope) (a : Addr) (ccd : Value) (cl : List (Str × Addr)) (outer : List Env) (A₀ : Around) (base h₀ : Heap) (L : Addr) (m : Str → Option Value)
    (news : List (Addr × Obj)) (s : Shared) (l : List Nat) (t : Tok) (Q E : Value → Shared → Prop)
    (B : Below A₀ base outer h₀) (F : Fr h₀ L s.heap m) (X : (hd.heap_39 w.params).In h₀) (N : News h₀ L s.heap news) (T : Top hd.view_39 (looseW hd.view_39 []) mean mg mb h₀) (hk : cs.kind = .function)
    (hd : dp + 1 < recursionLimit) (hu : un + 8 < cLine) (hin : ∀ d ∈ l, d ∈ four) (hl : l.length ≤ 100)
    (ret : ∀ t h' tk', Fr h₀ L h' m → News h₀ L h' news → Q (.str ⟨(stage psA (l ++ [60, 62, 34])).toArray⟩ t) { s with heap := h', toks := tk' }) :
    wpAny (model prog w) (ktrTop dp un gd cn cs L a ccd cl outer) (call (.ref 28) [.str ⟨(l ++ [60, 62, 34]).toArray⟩ t]) Q E s := by
  refine wpAny_call ?_
  (refine' enterA ?k1 ?k2 ?k3 ?k4 ?k5 ?kA ?kF ?kK ?k6 ?k7 ?k8 ?k9 ?kB ?_ ?c2 ?c3 ?c4 ?c5; (case kA => exact rfl); (case kF => exact rfl); (case kK => assumption); (case k1 => k_asm); (case k2 => k_asm); (case k3 => k_asm); (case k4 => k_asm); (case k5 => k_asm); (case k6 => k_is); (case k7 => k_is); (case k8 => ktr_room); (case k9 => exact BindsTo.of_eq rfl); (case c5 => decide); (case kB => exact locs rfl); (case c2 => exact rfl); (case c3 => exact rfl); (case c4 => exact rfl); k_whole; intro L' h' F' N' B' X' T'; (try dsimp only))
  refine wpAny_stop ?_
  walk1
  walk1
  walk1
  refine wpAny_execs_cons ?_
  refine' if_rep (x := ⟨(stage (psA.take 0) (l ++ [60, 62, 34])).toArray⟩) ?F ?X ?N ?T ?a ?b ?c ?d 38 ?e ?f ?_
  (case f => rfl); (case F => exact F'); (case X => exact X'); (case N => exact N'); (case T => exact T'); (case a => rfl); (case b => exact stage_len hin hl (by decide +kernel) (by decide +kernel)); (case c => decide +kernel); (case d => decide +kernel); (case e => decide +kernel)
  rw [show Txt.replace ⟨(stage (psA.take 0) (l ++ [60, 62, 34])).toArray⟩ (Str.ofString "&") (Str.ofString "&amp;") = ⟨(stage (psA.take 1) (l ++ [60, 62, 34])).toArray⟩ from by
    rw [show Str.ofString "&" = ⟨#[38]⟩ from by decide +kernel]; exact rep_stage (z := [38, 97, 109, 112, 59]) (by decide +kernel)]
  intro t1 h1 tk1 F1 N1
  dsimp only
  refine wpAny_execs_cons ?_
  refine' if_rep (x := ⟨(stage (psA.take 1) (l ++ [60, 62, 34])).toArray⟩) ?F ?X ?N ?T ?a ?b ?c ?d 60 ?e ?f ?_
  (case f => rfl); (case F => exact F1); (case X => exact X'); (case N => exact N1); (case T => exact T'); (case a => rfl); (case b => exact stage_len hin hl (by decide +kernel) (by decide +kernel)); (case c => decide +kernel); (case d => decide +kernel); (case e => decide +kernel)
  rw [show Txt.replace ⟨(stage (psA.take 1) (l ++ [60, 62, 34])).toArray⟩ (Str.ofString "<") (Str.ofString "&lt;") = ⟨(stage (psA.take 2) (l ++ [60, 62, 34])).toArray⟩ from by
    rw [show Str.ofString "<" = ⟨#[60]⟩ from by decide +kernel]; exact rep_stage (z := [38, 108, 116, 59]) (by decide +kernel)]
  intro t2 h2 tk2 F2 N2
  dsimp only
  clear F1 N1
  refine wpAny_execs_cons ?_
  refine' if_rep (x := ⟨(stage (psA.take 2) (l ++ [60, 62, 34])).toArray⟩) ?F ?X ?N ?T ?a ?b ?c ?d 62 ?e ?f ?_
  (case f => rfl); (case F => exact F2); (case X => exact X'); (case N => exact N2); (case T => exact T'); (case a => rfl); (case b => exact stage_len hin hl (by decide +kernel) (by decide +kernel)); (case c => decide +kernel); (case d => decide +kernel); (case e => decide +kernel)
  rw [show Txt.replace ⟨(stage (psA.take 2) (l ++ [60, 62, 34])).toArray⟩ (Str.ofString ">") (Str.ofString "&gt;") = ⟨(stage (psA.take 3) (l ++ [60, 62, 34])).toArray⟩ from by
    rw [show Str.ofString ">" = ⟨#[62]⟩ from by decide +kernel]; exact rep_stage (z := [38, 103, 116, 59]) (by decide +kernel)]
  intro t3 h3 tk3 F3 N3
  dsimp only
  clear F2 N2
  refine wpAny_execs_cons ?_
  refine' if_rep (x := ⟨(stage (psA.take 3) (l ++ [60, 62, 34])).toArray⟩) ?F ?X ?N ?T ?a ?b ?c ?d 34 ?e ?f ?_
  (case f => rfl); (case F => exact F3); (case X => exact X'); (case N => exact N3); (case T => exact T'); (case a => rfl); (case b => exact stage_len hin hl (by decide +kernel) (by decide +kernel)); (case c => decide +kernel); (case d => decide +kernel); (case e => decide +kernel)
  rw [show Txt.replace ⟨(stage (psA.take 3) (l ++ [60, 62, 34])).toArray⟩ (Str.ofString "\"") (Str.ofString "&quot;") = ⟨(stage (psA.take 4) (l ++ [60, 62, 34])).toArray⟩ from by
    rw [show Str.ofString "\"" = ⟨#[34]⟩ from by decide +kernel]; exact rep_stage (z := [38, 113, 117, 111, 116, 59]) (by decide +kernel)]
  intro t4 h4 tk4 F4 N4
  dsimp only
  clear F3 N3
  refine wpAny_execs_cons ?_
  refine' if_rep (x := ⟨(stage (psA.take 4) (l ++ [60, 62, 34])).toArray⟩) ?F ?X ?N ?T ?a ?b ?c ?d 13 ?e ?f ?_
  (case f => rfl); (case F => exact F4); (case X => exact X'); (case N => exact N4); (case T => exact T'); (case a => rfl); (case b => exact stage_len hin hl (by decide +kernel) (by decide +kernel)); (case c => decide +kernel); (case d => decide +kernel); (case e => decide +kernel)
  rw [show Txt.replace ⟨(stage (psA.take 4) (l ++ [60, 62, 34])).toArray⟩ (Str.ofString "\r") (Str.ofString "&#13;") = ⟨(stage (psA.take 5) (l ++ [60, 62, 34])).toArray⟩ from by
    rw [show Str.ofString "\r" = ⟨#[13]⟩ from by decide +kernel]; exact rep_stage (z := [38, 35, 49, 51, 59]) (by decide +kernel)]
  intro t5 h5 tk5 F5 N5
  dsimp only
  clear F4 N4
  refine wpAny_execs_cons ?_
  refine' if_rep (x := ⟨(stage (psA.take 5) (l ++ [60, 62, 34])).toArray⟩) ?F ?X ?N ?T ?a ?b ?c ?d 10 ?e ?f ?_
  (case f => rfl); (case F => exact F5); (case X => exact X'); (case N => exact N5); (case T => exact T'); (case a => rfl); (case b => exact stage_len hin hl (by decide +kernel) (by decide +kernel)); (case c => decide +kernel); (case d => decide +kernel); (case e => decide +kernel)
  rw [show Txt.replace ⟨(stage (psA.take 5) (l ++ [60, 62, 34])).toArray⟩ (Str.ofString "\n") (Str.ofString "&#10;") = ⟨(stage (psA.take 6) (l ++ [60, 62, 34])).toArray⟩ from by
    rw [show Str.ofString "\n" = ⟨#[10]⟩ from by decide +kernel]; exact rep_stage (z := [38, 35, 49, 48, 59]) (by decide +kernel)]
  intro t6 h6 tk6 F6 N6
  dsimp only
  clear F5 N5
  refine wpAny_execs_cons ?_
  refine' if_rep (x := ⟨(stage (psA.take 6) (l ++ [60, 62, 34])).toArray⟩) ?F ?X ?N ?T ?a ?b ?c ?d 9 ?e ?f ?_
  (case f => rfl); (case F => exact F6); (case X => exact X'); (case N => exact N6); (case T => exact T'); (case a => rfl); (case b => exact stage_len hin hl (by decide +kernel) (by decide +kernel)); (case c => decide +kernel); (case d => decide +kernel); (case e => decide +kernel)
  rw [show Txt.replace ⟨(stage (psA.take 6) (l ++ [60, 62, 34])).toArray⟩ (Str.ofString "\t") (Str.ofString "&#09;") = ⟨(stage (psA.take 7) (l ++ [60, 62, 34])).toArray⟩ from by
    rw [show Str.ofString "\t" = ⟨#[9]⟩ from by decide +kernel]; exact rep_stage (z := [38, 35, 48, 57, 59]) (by decide +kernel)]
  intro t7 h7 tk7 F7 N7
  dsimp only
  clear F6 N6
  k_steps
  exact ⟨L', _, F7, fun FB NB => ret _ _ _ FB NB⟩

theorem escC_spec {prog : Program} (w : World) {mean : ExcName → Option Value} {mg mb : Str → Option Value} (dp un : Nat) (gd : Option (List Code)) (cn : Str) (cs : Scope) (a : Addr) (ccd : Value) (cl : List (Str × Addr)) (outer : List Env) (A₀ : Around) (base h₀ : Heap) (L : Addr) (m : Str → Option Value)
    (news : List (Addr × Obj)) (s : Shared) (l : List Nat) (t : Tok) (Q E : Value → Shared → Prop)
    (B : Below A₀ base outer h₀) (F : Fr h₀ L s.heap m) (X : (hd.heap_39 w.params).In h₀) (N : News h₀ L s.heap news) (T : Top hd.view_39 (looseW hd.view_39 []) mean mg mb h₀) (hk : cs.kind = .function)
    (hd : dp + 1 < recursionLimit) (hu : un + 8 < cLine) (hin : ∀ d ∈ l, d ∈ four) (hl : l.length ≤ 100)
    (ret : ∀ t h' tk', Fr h₀ L h' m → News h₀ L h' news → Q (.str ⟨(stage psC (l ++ [60, 62, 34])).toArray⟩ t) { s with heap := h', toks := tk' }) :
    wpAny (model prog w) (ktrTop dp un gd cn cs L a ccd cl outer) (call (.ref 35) [.str ⟨(l ++ [60, 62, 34]).toArray⟩ t]) Q E s := by
  refine wpAny_call ?_
  (refine' enterA ?k1 ?k2 ?k3 ?k4 ?k5 ?kA ?kF ?kK ?k6 ?k7 ?k8 ?k9 ?kB ?_ ?c2 ?c3 ?c4 ?c5; (case kA => exact rfl); (case kF => exact rfl); (case kK => assumption); (case k1 => k_asm); (case k2 => k_asm); (case k3 => k_asm); (case k4 => k_asm); (case k5 => k_asm); (case k6 => k_is); (case k7 => k_is); (case k8 => ktr_room); (case k9 => exact BindsTo.of_eq rfl); (case c5 => decide); (case kB => exact locs rfl); (case c2 => exact rfl); (case c3 => exact rfl); (case c4 => exact rfl); k_whole; intro L' h' F' N' B' X' T'; (try dsimp only))
  refine wpAny_stop ?_
  walk1
  walk1
  walk1
  refine wpAny_execs_cons ?_
  refine' if_rep (x := ⟨(stage (psC.take 0) (l ++ [60, 62, 34])).toArray⟩) ?F ?X ?N ?T ?a ?b ?c ?d 38 ?e ?f ?_
  (case f => rfl); (case F => exact F'); (case X => exact X'); (case N => exact N'); (case T => exact T'); (case a => rfl); (case b => exact stage_len hin hl (by decide +kernel) (by decide +kernel)); (case c => decide +kernel); (case d => decide +kernel); (case e => decide +kernel)
  rw [show Txt.replace ⟨(stage (psC.take 0) (l ++ [60, 62, 34])).toArray⟩ (Str.ofString "&") (Str.ofString "&amp;") = ⟨(stage (psC.take 1) (l ++ [60, 62, 34])).toArray⟩ from by
    rw [show Str.ofString "&" = ⟨#[38]⟩ from by decide +kernel]; exact rep_stage (z := [38, 97, 109, 112, 59]) (by decide +kernel)]
  intro t1 h1 tk1 F1 N1
  dsimp only
  refine wpAny_execs_cons ?_
  refine' if_rep (x := ⟨(stage (psC.take 1) (l ++ [60, 62, 34])).toArray⟩) ?F ?X ?N ?T ?a ?b ?c ?d 60 ?e ?f ?_
  (case f => rfl); (case F => exact F1); (case X => exact X'); (case N => exact N1); (case T => exact T'); (case a => rfl); (case b => exact stage_len hin hl (by decide +kernel) (by decide +kernel)); (case c => decide +kernel); (case d => decide +kernel); (case e => decide +kernel)
  rw [show Txt.replace ⟨(stage (psC.take 1) (l ++ [60, 62, 34])).toArray⟩ (Str.ofString "<") (Str.ofString "&lt;") = ⟨(stage (psC.take 2) (l ++ [60, 62, 34])).toArray⟩ from by
    rw [show Str.ofString "<" = ⟨#[60]⟩ from by decide +kernel]; exact rep_stage (z := [38, 108, 116, 59]) (by decide +kernel)]
  intro t2 h2 tk2 F2 N2
  dsimp only
  clear F1 N1
  refine wpAny_execs_cons ?_
  refine' if_rep (x := ⟨(stage (psC.take 2) (l ++ [60, 62, 34])).toArray⟩) ?F ?X ?N ?T ?a ?b ?c ?d 34 ?e ?f ?_
  (case f => rfl); (case F => exact F2); (case X => exact X'); (case N => exact N2); (case T => exact T'); (case a => rfl); (case b => exact stage_len hin hl (by decide +kernel) (by decide +kernel)); (case c => decide +kernel); (case d => decide +kernel); (case e => decide +kernel)
  rw [show Txt.replace ⟨(stage (psC.take 2) (l ++ [60, 62, 34])).toArray⟩ (Str.ofString "\"") (Str.ofString "&quot;") = ⟨(stage (psC.take 3) (l ++ [60, 62, 34])).toArray⟩ from by
    rw [show Str.ofString "\"" = ⟨#[34]⟩ from by decide +kernel]; exact rep_stage (z := [38, 113, 117, 111, 116, 59]) (by decide +kernel)]
  intro t3 h3 tk3 F3 N3
  dsimp only
  clear F2 N2
  refine wpAny_execs_cons ?_
  refine' if_rep (x := ⟨(stage (psC.take 3) (l ++ [60, 62, 34])).toArray⟩) ?F ?X ?N ?T ?a ?b ?c ?d 9 ?e ?f ?_
  (case f => rfl); (case F => exact F3); (case X => exact X'); (case N => exact N3); (case T => exact T'); (case a => rfl); (case b => exact stage_len hin hl (by decide +kernel) (by decide +kernel)); (case c => decide +kernel); (case d => decide +kernel); (case e => decide +kernel)
  rw [show Txt.replace ⟨(stage (psC.take 3) (l ++ [60, 62, 34])).toArray⟩ (Str.ofString "\t") (Str.ofString "&#x9;") = ⟨(stage (psC.take 4) (l ++ [60, 62, 34])).toArray⟩ from by
    rw [show Str.ofString "\t" = ⟨#[9]⟩ from by decide +kernel]; exact rep_stage (z := [38, 35, 120, 57, 59]) (by decide +kernel)]
  intro t4 h4 tk4 F4 N4
  dsimp only
  clear F3 N3
  refine wpAny_execs_cons ?_
  refine' if_rep (x := ⟨(stage (psC.take 4) (l ++ [60, 62, 34])).toArray⟩) ?F ?X ?N ?T ?a ?b ?c ?d 10 ?e ?f ?_
  (case f => rfl); (case F => exact F4); (case X => exact X'); (case N => exact N4); (case T => exact T'); (case a => rfl); (case b => exact stage_len hin hl (by decide +kernel) (by decide +kernel)); (case c => decide +kernel); (case d => decide +kernel); (case e => decide +kernel)
  rw [show Txt.replace ⟨(stage (psC.take 4) (l ++ [60, 62, 34])).toArray⟩ (Str.ofString "\n") (Str.ofString "&#xA;") = ⟨(stage (psC.take 5) (l ++ [60, 62, 34])).toArray⟩ from by
    rw [show Str.ofString "\n" = ⟨#[10]⟩ from by decide +kernel]; exact rep_stage (z := [38, 35, 120, 65, 59]) (by decide +kernel)]
  intro t5 h5 tk5 F5 N5
  dsimp only
  clear F4 N4
  refine wpAny_execs_cons ?_
  refine' if_rep (x := ⟨(stage (psC.take 5) (l ++ [60, 62, 34])).toArray⟩) ?F ?X ?N ?T ?a ?b ?c ?d 13 ?e ?f ?_
  (case f => rfl); (case F => exact F5); (case X => exact X'); (case N => exact N5); (case T => exact T'); (case a => rfl); (case b => exact stage_len hin hl (by decide +kernel) (by decide +kernel)); (case c => decide +kernel); (case d => decide +kernel); (case e => decide +kernel)
  rw [show Txt.replace ⟨(stage (psC.take 5) (l ++ [60, 62, 34])).toArray⟩ (Str.ofString "\r") (Str.ofString "&#xD;") = ⟨(stage (psC.take 6) (l ++ [60, 62, 34])).toArray⟩ from by
    rw [show Str.ofString "\r" = ⟨#[13]⟩ from by decide +kernel]; exact rep_stage (z := [38, 35, 120, 68, 59]) (by decide +kernel)]
  intro t6 h6 tk6 F6 N6
  dsimp only
  clear F5 N5
  k_steps
  exact ⟨L', _, F6, fun FB NB => ret _ _ _ FB NB⟩

end Mine

/-! EnumU -/
namespace Mine
open PySem PySem.W PyProof.Rows PySem.Calls PySem.Spec
set_option maxRecDepth 100000
example : True := by (w_top off); trivial
theorem wpAny_halt {α : Type} {M : Model} {A : Around} {t : Sem α} {Q : α → Shared → Prop} {E : Value → Shared → Prop} {s : Shared} (h : Stop (wpAny M A t Q E s)) : wpAny M A t Q E s := h
/-! ## drawing with the tokens told -/
/-- what an iterator gives, the tokens told: P i x t₀: the i-th thing x, drawn while t₀ tokens were out -/
structure DrawsU (prog : Program) (w : World) (A : Around) (it : Addr) (fp : List Addr) (n : Nat) (P : Nat → Value → Nat → Prop) (St : Nat → Heap → Prop) : Prop where
  live : ∀ i h, St i h → ∃ o, h.get? it = some o
  frame : ∀ i h h', St i h → (∀ b ∈ fp, ∀ o, h.get? b = some o → h'.get? b = some o) → St i h'
  item : ∀ i (s : Shared) (Q : Value → Shared → Prop) (E : Value → Shared → Prop), i < n → St i s.heap →
    (∀ x h' tk, P i x s.toks → s.toks ≤ tk → St (i + 1) h' → Heap.SameBut it s.heap h' → Q x { s with heap := h', toks := tk }) → wpAny (model prog w) A (Builtin.SmallTypes.nextOf (.ref it)) Q E s
theorem DrawsU.of {prog : Program} {w : World} {A : Around} {it : Addr} {fp : List Addr} {n : Nat} {P : Nat → Value → Prop} {St : Nat → Heap → Prop} (D : Draws prog w A it fp n P St) : DrawsU prog w A it fp n (fun i x _ => P i x) St where
  live := D.live
  frame := D.frame
  item := fun i s Q E hi st hQ => wpAny_tk (D.item i s _ E hi st fun x h' tk hp hs hb ht => hQ x h' tk hp ht hs hb)
theorem DrawsU.ascii {prog : Program} {w : World} {A : Around} (it : Addr) (x : Str) (t : Tok) :
    DrawsU prog w A it [it] x.cps.size (fun i v t₀ => ∃ c, x.cps[i]? = some c ∧ v = .str ⟨#[c]⟩ t₀) (fun i h => h.IsStrIter it "str_ascii_iterator" x t i) where
  live := fun _ _ st => let ⟨o, ho, _⟩ := st; ⟨o, ho⟩
  frame := fun _ _ _ st hk => let ⟨o, ho, r⟩ := st; ⟨o, hk it (by simp) o ho, r⟩
  item := fun i s Q E hi st hQ => by
    refine wpAny_nextOf_ascii_item st (c := x.cps[i]) (by simp [hi]) fun h' hit' hs' => ?_
    exact hQ _ h' (s.toks + 1) ⟨_, by simp [hi], rfl⟩ (Nat.le_succ _) hit' hs'

section
variable {prog : Program} {w : World} {A : Around} {E : Value → Shared → Prop} {s : Shared}
/-- one turn of enumerate's __next__ over such an iterator -/
theorem enumU_next {e it : Addr} {fp : List Addr} {n i : Nat} {P : Nat → Value → Nat → Prop} {St : Nat → Heap → Prop} {old : Value} {Q : Value → Shared → Prop}
    (D : DrawsU prog w A it fp n P St) (he : IsEnum s.heap e it i old) (hst : St i s.heap) (hlt : i < n) (hne : e ≠ it) (hef : e ∉ fp)
    (hQ : ∀ x h' tk u, P i x s.toks → s.toks ≤ tk → IsEnumOut h' e it ((i : Int) + 1) x s.heap.objs.size → St (i + 1) h' →
      h'.get? s.heap.objs.size = some { cls := .type "tuple", data := .seq #[.int i u, x] } →
      (∀ b o, b ≠ e → b ≠ it → s.heap.get? b = some o → h'.get? b = some o) → Q (.ref s.heap.objs.size) { s with heap := h', toks := tk }) :
    wpAny (model prog w) A (Builtin.«enumerate.__next__» ⟨[.ref e], []⟩) (fun fin s' => ∃ v, fin = .done (.ret v) ∧ Q v s') E s := by
  obtain ⟨H, g, d, t₀, os⟩ := s
  have hel : e < H.objs.size := Heap.lt_size he
  show wpAny _ _ (field (.ref e) 2 >>= _) _ _ _
  refine wpAny_bind (wpAny_field he rfl (x := .ref it) rfl (wpAny_bind (D.item i _ _ _ hlt hst fun x h₁ tk hPx htk hit₁ hs₁ => ?_)))
  replace hs₁ : Heap.SameBut it H h₁ := hs₁
  have he₁ : IsEnum h₁ e it i old := (hs₁.2 e hne).trans he
  show wpAny _ _ (field (.ref e) 3 >>= _) _ _ ⟨h₁, g, d, tk, os⟩
  refine wpAny_bind (wpAny_field he₁ rfl (x := rawInt i) rfl ?_)
  show wpAny _ _ (field (.ref e) 4 >>= _) _ _ ⟨h₁, g, d, tk, os⟩
  refine wpAny_bind (wpAny_field he₁ rfl (x := .none) rfl ?_)
  show wpAny _ _ (mkInt i >>= _) _ _ ⟨h₁, g, d, tk, os⟩
  refine wpAny_bind (wpAny_mkInt ?_)
  show wpAny _ _ (setField (.ref e) 3 (rawInt ((i : Int) + 1)) >>= _) _ _ ⟨h₁, g, d, tk + 1, os⟩
  refine wpAny_bind (wpAny_setField_rec he₁ (by simp) fun h₂ he₂ hs₂ => ?_)
  replace hs₂ : Heap.SameBut e h₁ h₂ := hs₂
  replace he₂ : IsEnum h₂ e it ((i : Int) + 1) old := he₂
  show wpAny _ _ (setField (.ref e) 4 .none >>= _) _ _ ⟨h₂, g, d, tk + 1, os⟩
  refine wpAny_bind (wpAny_setField_rec he₂ (by simp) fun h₃ he₃ hs₃ => ?_)
  replace hs₃ : Heap.SameBut e h₂ h₃ := hs₃
  replace he₃ : IsEnum h₃ e it ((i : Int) + 1) old := he₃
  show wpAny _ _ (newTuple [.int i tk, x] >>= _) _ _ ⟨h₃, g, d, tk + 1, os⟩
  refine wpAny_bind (wpAny_newTuple ?_)
  have hsz : h₃.objs.size = H.objs.size := by rw [hs₃.1, hs₂.1, hs₁.1]
  have keepE : ∀ b o, b ≠ e → h₁.get? b = some o → h₃.get? b = some o := fun b o q y => hs₃.extBut b o q (hs₂.extBut b o q y)
  rw [hsz]
  have he₄ : IsEnum (h₃.push { cls := .type "tuple", data := .seq #[.int i tk, x] }) e it ((i : Int) + 1) old := Heap.get?_push_of_some _ he₃
  have ht₄ : (h₃.push { cls := .type "tuple", data := .seq #[.int i tk, x] }).get? H.objs.size = some { cls := .type "tuple", data := .seq #[.int i tk, x] } := by rw [← hsz]; exact Heap.get?_push_size _ rfl
  have up₄ : ∀ b o, b ≠ e → h₁.get? b = some o → (h₃.push { cls := .type "tuple", data := .seq #[.int i tk, x] }).get? b = some o := fun b o q y => Heap.get?_push_of_some _ (keepE b o q y)
  generalize h₃.push { cls := .type "tuple", data := .seq #[.int i tk, x] } = h₄ at he₄ ht₄ up₄
  show wpAny _ _ (Builtin.SmallTypes.ownedTupleIsFree (.ref e) >>= _) _ _ ⟨h₄, g, d, tk + 1, os⟩
  refine wpAny_bind ?_
  unfold Builtin.SmallTypes.ownedTupleIsFree
  refine wpAny_bind (wpAny_field he₄ rfl (x := .none) rfl (wpAny_pure ?_))
  simp only [if_true]
  refine wpAny_bind (wpAny_rule (wpAny_bind (wpAny_field he₄ rfl (x := old) rfl ?_)))
  refine wpAny_bind (wpAny_setField_rec he₄ (by simp) fun h₅ he₅ hs₅ => ?_)
  replace hs₅ : Heap.SameBut e h₄ h₅ := hs₅
  replace he₅ : IsEnum h₅ e it ((i : Int) + 1) x := he₅
  show wpAny _ _ (Builtin.SmallTypes.ownedTupleHandOut (.ref e) (.ref H.objs.size) >>= _) _ _ ⟨h₅, g, d, tk + 1, os⟩
  refine wpAny_bind ?_
  unfold Builtin.SmallTypes.ownedTupleHandOut
  refine wpAny_bind (wpAny_setField_rec he₅ (by simp) fun h₆ he₆ hs₆ => ?_)
  replace hs₆ : Heap.SameBut e h₅ h₆ := hs₆
  replace he₆ : IsEnumOut h₆ e it ((i : Int) + 1) x H.objs.size := he₆
  refine wpAny_setField_rec he₆ (by simp) fun h₇ he₇ hs₇ => ?_
  replace hs₇ : Heap.SameBut e h₆ h₇ := hs₇
  replace he₇ : IsEnumOut h₇ e it ((i : Int) + 1) x H.objs.size := he₇
  have up₇ : ∀ b o, b ≠ e → h₄.get? b = some o → h₇.get? b = some o := fun b o q y => hs₇.extBut b o q (hs₆.extBut b o q (hs₅.extBut b o q y))
  refine wpAny_bind (wpAny_letGo (wpAny_pure ⟨_, rfl, hQ x h₇ (tk + 1) tk hPx (Nat.le_succ_of_le htk) he₇ ?_ (up₇ _ _ (Nat.ne_of_gt hel) ht₄) fun b o qe qi y => up₇ b o qe (up₄ b o qe (hs₁.extBut b o qi y))⟩))
  exact D.frame _ _ _ hit₁ fun b hb o y => have q : b ≠ e := fun q => hef (q ▸ hb); up₇ b o q (up₄ b o q y)

theorem enumU_pyNext {e it : Addr} {fp : List Addr} {n i : Nat} {P : Nat → Value → Nat → Prop} {St : Nat → Heap → Prop} {old : Value} {Q : Option Value → Shared → Prop}
    (D : DrawsU prog w A.in1 it fp n P St) (he : IsEnum s.heap e it i old) (hst : St i s.heap) (hlt : i < n) (hne : e ≠ it) (hef : e ∉ fp)
    (hQ : ∀ x h' tk u, P i x s.toks → s.toks ≤ tk → IsEnumOut h' e it ((i : Int) + 1) x s.heap.objs.size → St (i + 1) h' →
      h'.get? s.heap.objs.size = some { cls := .type "tuple", data := .seq #[.int i u, x] } →
      (∀ b o, b ≠ e → b ≠ it → s.heap.get? b = some o → h'.get? b = some o) → Q (some (.ref s.heap.objs.size)) { s with heap := h', toks := tk }) :
    wpAny (model prog w) A (pyNext (.ref e)) Q E s := by
  have hT : s.TypeIs (.ref e) "enumerate" := ⟨_, he, rfl⟩
  unfold pyNext
  exact wpAny_bind (wpAny_attempt (wpAny_callSpecial?_slot (name := Str.ofString "__next__") hT F.slot_enumerate_next
    (wpAny_call_entry F.slot_enumerate_next hT F.entry_enumerate_next
      (enumU_next D he hst hlt hne hef fun x h' tk u a b c d k q => wpAny_pure (hQ x h' tk u a b c d k q)) (F.args_enumerate_next_1 _))))

/-- for i, j in enumerate(..): .. a return in turn kk; else: .. -/
theorem enumU_find {R : Result → Shared → Prop} {env : Env} {h₀ : Heap} {m : Str → Option Value} {xi xv : Str} {pi pv pt : Pos} {x1 : Nat} {body orelse : List Stmt} {e it : Addr} {fp : List Addr} {n kk lo : Nat} {P : Nat → Value → Nat → Prop} {St : Nat → Heap → Prop} {old : Value}
    (D : DrawsU prog w A.in1 it fp n P St) (hei : e ≠ it) (hef : e ∉ fp) (hif : it ∈ fp)
    (hh : A.handled = none) (hxi : env.kindOf xi = some .local) (hxv : env.kindOf xv = some .local)
    (hp : (env.scope.kind == .class || (env.scope.kind == .module && env.locals != env.globals)) = false) (hLf : env.locals ∉ fp) (hLe : env.locals ≠ e) (he0 : h₀.get? e = none) (hi0 : h₀.get? it = none)
    (hkk : kk < n) (he : IsEnum s.heap e it 0 old) (hst : St 0 s.heap) (F : Fr h₀ env.locals s.heap m) (hlo : lo ≤ s.toks)
    (step : ∀ i u v t₀ (m₁ : Str → Option Value) h tk, i ≤ kk → P i v t₀ → lo ≤ t₀ → (∀ y, y ≠ xi → y ≠ xv → m₁ y = m y) → Fr h₀ env.locals h (fun y => if y = xv then some v else if y = xi then some (.int i u) else m₁ y) →
      wpAny (model prog w) A (execs body env) (fun f s₂ => if i = kk then ∃ r, f = .ret r ∧ R (.ok (.ret r)) s₂ else f = .next ∧ ∃ h' tk', s₂ = { s with heap := h', toks := tk' } ∧ ∃ m₂, Fr h₀ env.locals h' m₂ ∧ (∀ y, y ≠ xi → y ≠ xv → m₂ y = m y) ∧ (∀ b o, b ≠ env.locals → h.get? b = some o → h'.get? b = some o))
        (fun _ _ => False) { s with heap := h, toks := tk }) :
    codeAny (model prog w) A (.forLoop (.Tuple [.Name xi pi, .Name xv pv] x1 pt) (.ref e) body orelse env) R s := by
  have hLi : env.locals ≠ it := fun q => hLf (q ▸ hif)
  have old : ∀ b o, h₀.get? b = some o → b ≠ e ∧ b ≠ it := fun b o x => ⟨fun q => (by rw [q, he0] at x; cases x), fun q => (by rw [q, hi0] at x; cases x)⟩
  refine codeAny_forLoop_any
    (fun k s' => ∃ h' tk m' i old, s' = { s with heap := h', toks := tk } ∧ IsEnum h' e it ((i : Nat) : Int) old ∧ St i h' ∧ Fr h₀ env.locals h' m' ∧ (∀ y, y ≠ xi → y ≠ xv → m' y = m y) ∧ i ≤ kk ∧ k = n + 1 - i ∧ lo ≤ tk) ?_ (n + 1)
    ⟨s.heap, s.toks, m, 0, _, rfl, he, hst, F, fun _ _ _ => rfl, Nat.zero_le _, rfl, hlo⟩
  rintro k s' ⟨H, tk, m', i, od, rfl, he', hst', F', hm', hi, rfl, hlo'⟩
  have hlt : i < n := Nat.lt_of_le_of_lt hi hkk
  refine enumU_pyNext D he' hst' hlt hei hef fun v h₁ tk₁ u hP htk ho hst₁ hT hk₁ => ?_
  have helt : e < H.objs.size := Heap.lt_size he'
  have hilt : it < H.objs.size := by obtain ⟨_, y⟩ := D.live _ _ hst'; exact Heap.lt_size y
  have hLlt : env.locals < H.objs.size := F'.ns.lt
  refine wpAny_letOwnedTupleGo_enum ho fun h₂ he₂ hs₂ => ?_
  replace hs₂ : Heap.SameBut e h₁ h₂ := hs₂
  replace he₂ : IsEnum h₂ e it ((i : Int) + 1) v := he₂
  have hst₂ : St (i + 1) h₂ := D.frame _ _ _ hst₁ fun b hb o y => hs₂.extBut b o (fun q => hef (q ▸ hb)) y
  have hT₂ : h₂.IsTuple H.objs.size #[.int i u, v] := ⟨_, hs₂.extBut _ _ (Nat.ne_of_gt helt) hT, rfl, _, rfl⟩
  refine wpAny_assign_Tuple hh hT₂ rfl rfl fun h₃ hx₃ => ?_
  replace hx₃ : Heap.ExtBut h₂.objs.size h₂ h₃ := hx₃
  have old₃ : ∀ b o, h₂.get? b = some o → h₃.get? b = some o := fun b o x => hx₃ b o (Nat.ne_of_lt (Heap.lt_size x)) x
  have up : ∀ b o, b ≠ e → b ≠ it → H.get? b = some o → h₃.get? b = some o := fun b o qe qi y => old₃ b o (hs₂.extBut b o qe (hk₁ b o qe qi y))
  have F₃ : Fr h₀ env.locals h₃ m' := ⟨F'.ns.at' fun o x => up _ o hLe hLi x, fun b o x => up b o (old b o x).1 (old b o x).2 (F'.keep b o x), F'.above⟩
  show wpAny _ A (do holding [v] (assign (.Name xi pi) env (.int i u)); do holding [] (assign (.Name xv pv) env v); pure ()) _ _ _
  refine wpAny_bind (wpAny_holding (wpAny_assign_Name (wpAny_storeName_local hxi F₃.ns (fun h₄ hn₄ hs₄ => ?_) hp)))
  have F₄ := F₃.set hn₄ hs₄
  refine wpAny_bind (wpAny_holding (wpAny_assign_Name (wpAny_storeName_local hxv F₄.ns (fun h₅ hn₅ hs₅ => wpAny_pure ?_) hp)))
  have F₅ := F₄.set hn₅ hs₅
  have up₅ : ∀ b o, b ≠ env.locals → h₂.get? b = some o → h₅.get? b = some o := fun b o hb x => (hs₅.2 b hb).trans ((hs₄.2 b hb).trans (old₃ b o x))
  refine wpAny_tk ?_
  refine wpAny_mono (step i u v tk m' h₅ _ hi hP hlo' hm' F₅) (fun f s₃ h₆ ht => ?_) fun _ _ x => x.elim
  by_cases hik : i = kk
  · rw [if_pos hik] at h₆
    obtain ⟨r, rfl, hr⟩ := h₆
    exact hr
  · rw [if_neg hik] at h₆
    obtain ⟨rfl, h', tk', rfl, m₂, F₆, hm₂, hk₆⟩ := h₆
    have fpL : ∀ b ∈ fp, b ≠ env.locals := fun b hb q => hLf (q ▸ hb)
    have up6 : ∀ b, b ≠ env.locals → ∀ o, h₂.get? b = some o → h'.get? b = some o := fun b hb o x => hk₆ b o hb (up₅ b o hb x)
    refine ⟨n + 1 - (i + 1), by omega, h', tk', m₂, i + 1, v, rfl, ?_, D.frame _ _ _ hst₂ fun b hb o y => up6 b (fpL b hb) o y, F₆, hm₂, by omega, rfl, ?_⟩
    · exact up6 e (Ne.symm hLe) _ (by push_cast; exact he₂)
    · have : tk₁ ≤ tk' := Nat.le_trans (Nat.le_add_right tk₁ 2) ht
      have : tk ≤ tk₁ := htk
      omega
end
end Mine

/-! Idx -/
namespace Mine
open PySem PySem.W PyProof.Rows PySem.Calls PySem.Spec
set_option maxRecDepth 100000
set_option maxHeartbeats 8000000
set_option pp.maxSteps 20000
set_option pp.deepTerms false
set_option pp.deepTerms.threshold 4
example : True := by (w_top off); trivial
theorem frKnown {h₀ h : Heap} {L : Addr} {m : Str → Option Value} (F : Fr h₀ L h m) (ps : List (Str × Value)) (hp : ∀ p ∈ ps, m p.1 = some p.2) : Fr h₀ L h (kstB m ps) := map_known ps hp ▸ F
theorem noneBooked {P : Params} {h : Heap} (X : (hd.heap_39 P).In h) : NoneBooked h :=
  ⟨fun _ => none, ⟨_, #[], _, X 2 _ rfl, rfl, (by intro e he; simp at he), fun _ => rfl⟩, rfl⟩
/-- is, of two strs whose tokens part wherever their texts part -/
theorem wpAny_Is_str {M : Model} {A : Around} {E : Value → Shared → Prop} {s : Shared} {y z : Str} {u v : Tok} {Q : Value → Shared → Prop}
    (hu : 0 < u) (hv : 0 < v) (hne : u ≠ v) (hb : NoneBooked s.heap) (hq : ∀ b, (y ≠ z → b = false) → Q (.bool b) s) : wpAny M A (compareOp .Is (.str y u) (.str z v)) Q E s := by
  have h0 : (u == 0 || v == 0) = false := by
    have a : (u == 0) = false := beq_eq_false_iff_ne.mpr (Nat.ne_of_gt hu)
    have b : (v == 0) = false := beq_eq_false_iff_ne.mpr (Nat.ne_of_gt hv)
    rw [a, b]; rfl
  show wpAny M A (do return .bool (← isSame (.str y u) (.str z v))) Q E s
  by_cases e : y = z
  · exact wpAny_bind (wpAny_isSame_str h0 hb fun b => wpAny_pure (hq b fun q => absurd e q))
  · rw [isSame_str_other y z u v h0 (by simp [hne]) (by simp [e])]
    exact wpAny_bind (wpAny_pure (wpAny_pure (hq false fun _ => rfl)))
/-- what enumerate gives over a thing that iterates the strs xs, whose tokens are none of u -/
def EnumSrc (prog : Program) (w : World) (s : Shared) (av : Value) (xs : List Str) (u : Tok) : Prop :=
  ∀ (A : Around) (h : Heap) (tk : Nat) (Q' : Value → Shared → Prop) (E' : Value → Shared → Prop), A.handled = none → (∀ b o, s.heap.get? b = some o → h.get? b = some o) → s.toks ≤ tk →
    (∀ (h' : Heap) (e it : Addr) (fp : List Addr) (P : Nat → Value → Nat → Prop) (St : Nat → Heap → Prop), (∀ A', A'.handled = none → DrawsU prog w A' it fp xs.length P St) → e ≠ it → e ∉ fp → it ∈ fp → h.get? e = none → h.get? it = none → (∀ b ∈ fp, b ≠ it → ∃ o, s.heap.get? b = some o) →
      IsEnum h' e it 0 .none → St 0 h' → (∀ b o, h.get? b = some o → h'.get? b = some o) → (∀ i v t₀, P i v t₀ → tk ≤ t₀ → ∃ x t', v = .str x t' ∧ xs[i]? = some x ∧ 0 < t' ∧ t' ≠ u) → Q' (.ref e) { s with heap := h', toks := tk }) →
    wpAny (model prog w) A (call (.type "enumerate") [av]) Q' E' { s with heap := h, toks := tk }

local macro_rules | `(tactic| walk_at "call type:enumerate") => `(tactic| (refine wpAny_halt ?_))
local macro_rules | `(tactic| walk_at "compareOp Is") => `(tactic| (refine wpAny_halt ?_))

theorem idx_spec {prog : Program} (w : World) {mean : ExcName → Option Value} {mg mb : Str → Option Value} (dp un : Nat) (gd : Option (List Code)) (cn : Str) (cs : Scope) (a : Addr) (ccd : Value) (cl : List (Str × Addr)) (outer : List Env) (A₀ : Around) (base h₀ : Heap) (L : Addr) (m : Str → Option Value)
    (news : List (Addr × Obj)) (s : Shared) (av : Value) (xs : List Str) (kk : Nat) (y : Str) (u : Tok) (Q E : Value → Shared → Prop)
    (B : Below A₀ base outer h₀) (F : Fr h₀ L s.heap m) (X : (hd.heap_39 w.params).In h₀) (N : News h₀ L s.heap news) (T : Top hd.view_39 (looseW hd.view_39 []) mean mg mb h₀) (hk : cs.kind = .function)
    (hd : dp + 1 < recursionLimit) (hu : un + 8 < cLine) (hsrc : EnumSrc prog w s av xs u) (hx : xs[kk]? = some y) (hfirst : ∀ i d, i < kk → xs[i]? = some d → d ≠ y) (hu0 : 0 < u)
    (ret : ∀ t h' tk', Fr h₀ L h' m → News h₀ L h' news → Q (.int kk t) { s with heap := h', toks := tk' }) :
    wpAny (model prog w) (ktrTop dp un gd cn cs L a ccd cl outer) (call (.ref 56) [av, .str y u]) Q E s := by
  refine wpAny_call ?_
  (refine' enterA ?k1 ?k2 ?k3 ?k4 ?k5 ?kA ?kF ?kK ?k6 ?k7 ?k8 ?k9 ?kB ?_ ?c2 ?c3 ?c4 ?c5; (case kA => exact rfl); (case kF => exact rfl); (case kK => assumption); (case k1 => k_asm); (case k2 => k_asm); (case k3 => k_asm); (case k4 => k_asm); (case k5 => k_asm); (case k6 => k_is); (case k7 => k_is); (case k8 => ktr_room); (case k9 => exact BindsTo.of_eq rfl); (case c5 => decide); (case kB => exact locs rfl); (case c2 => exact rfl); (case c3 => exact rfl); (case c4 => exact rfl); k_whole; intro L' h' F' N' B' X' T'; (try dsimp only))
  have hL0 : s.heap.get? L' = none := by
    cases q : s.heap.get? L' with
    | none => rfl
    | some o => exact absurd (Heap.lt_size q) (Nat.not_lt.mpr F'.above)
  refine wpAny_execs_cons (wpAny_For (wpAny_stop ?_))
  k_steps
  refine hsrc _ h' _ _ _ rfl F'.keep (by show s.toks ≤ s.toks + _; omega) fun h2 e it fp P St D hei hef hif he0 hi0 hfp he2 hst2 up2 hPt => ?_
  have F2 := F'.keeps up2
  have N2 := N'.grown up2
  have T2 : kk < xs.length := by
    rcases Nat.lt_or_ge kk xs.length with q | q
    · exact q
    · rw [List.getElem?_eq_none q] at hx; cases hx
  refine wpAny_pyIter_enum he2 ?_
  have hLL : ∀ b, h'.get? b = none → L' ≠ b := fun b hb q => by
    obtain ⟨o, _, _, ho, _⟩ := F'.ns
    rw [q, hb] at ho; cases ho
  have lo0 : ∀ b, h'.get? b = none → s.heap.get? b = none := fun b hb => by
    cases q : s.heap.get? b with
    | none => rfl
    | some o => rw [F'.keep b o q] at hb; cases hb
  refine enumU_find (kk := kk) (lo := s.toks + 2) (D _ rfl) hei hef hif rfl rfl rfl rfl (fun q => ?_) (hLL _ he0) (lo0 _ he0) (lo0 _ hi0) T2 he2 hst2 F2 (Nat.le_refl _) ?_
  · obtain ⟨o, ho⟩ := hfp _ q (hLL _ hi0)
    have ho' : s.heap.get? L' = some o := ho
    rw [hL0] at ho'; cases ho'
  intro i ui v t₀ m₁ h3 tk3 hi hP hlo hm₁ F3
  obtain ⟨d, td, rfl, hxd, htd, htu⟩ := hPt _ _ _ hP hlo
  have ma : m₁ "a" = some av := hm₁ _ (by decide) (by decide)
  have mb : m₁ "b" = some (.str y u) := hm₁ _ (by decide) (by decide)
  have hps : ∀ p ∈ ([("j", .str d td), ("i", .int i ui), ("a", av), ("b", .str y u)] : List (Str × Value)), (fun z : Str => if z = "j" then some (Value.str d td) else if z = "i" then some (Value.int i ui) else m₁ z) p.1 = some p.2 := by
    intro p hp
    simp only [List.mem_cons, List.not_mem_nil, or_false] at hp
    rcases hp with rfl | rfl | rfl | rfl
    · rfl
    · rfl
    · exact ma
    · exact mb
  replace F3 := frKnown F3 _ hps
  have hbk : NoneBooked h3 := noneBooked (P := w.params) fun a o q => F3.keep a o (X' a o q)
  refine wpAny_execs_cons ?_
  k_steps
  refine wpAny_Is_str htd hu0 htu hbk fun b hbf => ?_
  have fin : d = y → i = kk := fun e => by
    rcases Nat.lt_or_eq_of_le hi with q | q
    · exact absurd e (hfirst i d q hxd)
    · exact q
  cases b with
  | true =>
    k_steps
    have hik : i = kk := fin (Classical.byContradiction fun q => by have := hbf q; cases this)
    show (if i = kk then _ else _)
    rw [if_pos hik]
    refine ⟨_, rfl, ?_⟩
    subst hik
    exact ⟨L', _, F3, fun FB NB => ret _ _ _ FB NB⟩
  | false =>
    k_steps
    · rename_i heq
      have hik : i = kk := fin (eq_of_beq heq)
      show (if i = kk then _ else _)
      rw [if_pos hik]
      refine ⟨_, rfl, ?_⟩
      subst hik
      exact ⟨L', _, F3, fun FB NB => ret _ _ _ FB NB⟩
    · rename_i heq
      have hik : i ≠ kk := fun q => by
        subst q
        rw [hx] at hxd; cases hxd
        rw [beq_self_eq_true] at heq; cases heq
      rw [if_neg hik]
      exact ⟨rfl, h3, _, rfl, _, F3, fun z hz1 hz2 => (kstB_eq hps fun _ => rfl).trans (by
        show (if z = "j" then some (Value.str d td) else if z = "i" then some (Value.int i ui) else m₁ z) = _
        rw [if_neg hz2, if_neg hz1]
        exact hm₁ z hz1 hz2), fun _ _ _ e => e⟩
end Mine

/-! Src -/
namespace Mine
open PySem PySem.W PyProof.Rows PySem.Calls PySem.Spec
set_option maxRecDepth 100000
set_option maxHeartbeats 8000000
example : True := by (w_top off); trivial
theorem src_str {prog : Program} {w : World} {s : Shared} {x : Str} {t u : Tok} (ha : x.cps.all (· < 128) = true) (hu : u < s.toks) : EnumSrc prog w s (.str x t) (x.cps.toList.map fun c => ⟨#[c]⟩) u := by
  intro A h tk Q' E' hh hkeep htk k
  refine call_enumerate_str fun h2 he2 hi2 hsz2 up2 => ?_
  have hty : strIterType x = "str_ascii_iterator" := by unfold strIterType; rw [ha]; rfl
  rw [hty] at hi2
  have new0 : ∀ b, h.objs.size ≤ b → h.get? b = none := fun b hb => by
    cases e : h.get? b with
    | none => rfl
    | some o => exact absurd (Heap.lt_size e) (Nat.not_lt.mpr hb)
  refine k h2 _ _ [h.objs.size] (fun (i : Nat) (v : Value) (t₀ : Nat) => ∃ c, x.cps[i]? = some c ∧ v = .str ⟨#[c]⟩ t₀) (fun (i : Nat) (h : Heap) => h.IsStrIter _ "str_ascii_iterator" x t i) (fun A' _ => ?_) (Nat.succ_ne_self _) (by simp) (List.mem_singleton.mpr rfl) (new0 _ (Nat.le_succ _)) (new0 _ (Nat.le_refl _)) (fun b hb hn => absurd (List.mem_singleton.mp hb) hn) he2 hi2 up2 ?_
  · have := DrawsU.ascii (prog := prog) (w := w) (A := A') h.objs.size x t
    rw [show x.cps.size = (x.cps.toList.map fun c => (⟨#[c]⟩ : Str)).length from by simp] at this
    exact this
  · rintro i v t₀ ⟨c, hc, rfl⟩ ht
    have q : u < t₀ := Nat.lt_of_lt_of_le hu (Nat.le_trans htk ht)
    refine ⟨_, _, rfl, ?_, Nat.lt_of_le_of_lt (Nat.zero_le _) q, Nat.ne_of_gt q⟩
    rw [List.getElem?_map, Array.getElem?_toList, hc]; rfl
theorem src_list {prog : Program} {w : World} {s : Shared} {l : Addr} {items : Array Value} {xs : List Str} {u : Tok} (hl : s.heap.IsList l items) (hsz : items.size = xs.length)
    (hit : ∀ (i : Nat) (v : Value), items[i]? = some v → ∃ x t', v = Value.str x t' ∧ xs[i]? = some x ∧ 0 < t' ∧ t' ≠ u) : EnumSrc prog w s (.ref l) xs u := by
  intro A h tk Q' E' hh hkeep htk k
  have hl' : h.IsList l items := by obtain ⟨o, ho, r⟩ := hl; exact ⟨o, hkeep _ _ ho, r⟩
  have hll : l < h.objs.size := by obtain ⟨o, ho, _⟩ := hl'; exact Heap.lt_size ho
  refine call_enumerate_list (s := { s with heap := h, toks := tk }) hl' fun h2 he2 hi2 hsz2 up2 => ?_
  have new0 : ∀ b, h.objs.size ≤ b → h.get? b = none := fun b hb => by
    cases e : h.get? b with
    | none => rfl
    | some o => exact absurd (Heap.lt_size e) (Nat.not_lt.mpr hb)
  refine k h2 _ _ [h.objs.size, l] (fun (i : Nat) (x : Value) (_ : Nat) => items[i]? = some x) (fun (i : Nat) (h : Heap) => h.IsListIter _ l i ∧ h.IsList l items) (fun A' hA' => ?_) (Nat.succ_ne_self _) (fun q => ?_) (List.mem_cons_self ..) (new0 _ (Nat.le_succ _)) (new0 _ (Nat.le_refl _)) (fun b hb hn => ?_) he2 ⟨hi2, ?_⟩ up2 ?_
  · rw [← hsz]
    exact DrawsU.of (Draws.list hA' _ l (Nat.ne_of_lt hll) items)
  · rcases List.mem_cons.mp q with q | q
    · exact Nat.succ_ne_self _ q
    · have q' : h.objs.size + 1 = l := List.mem_singleton.mp q
      exact absurd hll (Nat.not_lt.mpr (Nat.le_trans (Nat.le_succ _) (Nat.le_of_eq q')))
  · rcases List.mem_cons.mp hb with q | q
    · exact absurd q hn
    · rw [List.mem_singleton.mp q]
      obtain ⟨o, ho, _⟩ := hl; exact ⟨o, ho⟩
  · obtain ⟨o, ho, r⟩ := hl'; exact ⟨o, up2 _ _ ho, r⟩
  · intro i v t₀ hv _
    exact hit i v hv
end Mine

/-! AddC -/
namespace Mine
open PySem PySem.W PyProof.Rows PySem.Calls PySem.Spec
set_option maxRecDepth 100000
set_option maxHeartbeats 8000000
set_option pp.maxSteps 20000
set_option pp.deepTerms false
set_option pp.deepTerms.threshold 4
example : True := by (w_top off); trivial
theorem add_spec {prog : Program} (w : World) {mean : ExcName → Option Value} {mg mb : Str → Option Value} (dp un : Nat) (gd : Option (List Code)) (cn : Str) (cs : Scope) (a : Addr) (ccd : Value) (cl : List (Str × Addr)) (outer : List Env) (A₀ : Around) (base h₀ : Heap) (L : Addr) (m : Str → Option Value)
    (news : List (Addr × Obj)) (s : Shared) (x y : Str) (t u : Tok) (Q E : Value → Shared → Prop)
    (B : Below A₀ base outer h₀) (F : Fr h₀ L s.heap m) (X : (hd.heap_39 w.params).In h₀) (N : News h₀ L s.heap news) (T : Top hd.view_39 (looseW hd.view_39 []) mean mg mb h₀) (hk : cs.kind = .function)
    (hd : dp + 1 < recursionLimit) (hu : un + 8 < cLine) (hx : x.length ≤ 100000) (hy : y.length ≤ 100000)
    (ret : ∀ t h' tk', Fr h₀ L h' m → News h₀ L h' news → Q (.str (x ++ y) t) { s with heap := h', toks := tk' }) :
    wpAny (model prog w) (ktrTop dp un gd cn cs L a ccd cl outer) (call (.ref 42) [.str x t, .str y u]) Q E s := by
  refine wpAny_call ?_
  (refine' enterA ?k1 ?k2 ?k3 ?k4 ?k5 ?kA ?kF ?kK ?k6 ?k7 ?k8 ?k9 ?kB ?_ ?c2 ?c3 ?c4 ?c5; (case kA => exact rfl); (case kF => exact rfl); (case kK => assumption); (case k1 => k_asm); (case k2 => k_asm); (case k3 => k_asm); (case k4 => k_asm); (case k5 => k_asm); (case k6 => k_is); (case k7 => k_is); (case k8 => ktr_room); (case k9 => exact BindsTo.of_eq rfl); (case c5 => decide); (case kB => exact locs rfl); (case c2 => exact rfl); (case c3 => exact rfl); (case c4 => exact rfl); k_whole; intro L' h' F' N' B' X' T'; (try dsimp only))
  refine wpAny_execs_cons ?_
  k_steps
  exact ⟨L', _, F', fun FB NB => ret _ _ _ FB NB⟩
theorem contains_spec {prog : Program} (w : World) {mean : ExcName → Option Value} {mg mb : Str → Option Value} (dp un : Nat) (gd : Option (List Code)) (cn : Str) (cs : Scope) (a : Addr) (ccd : Value) (cl : List (Str × Addr)) (outer : List Env) (A₀ : Around) (base h₀ : Heap) (L : Addr) (m : Str → Option Value)
    (news : List (Addr × Obj)) (s : Shared) (l : Addr) (vs : List Value) (xs : List Str) (y : Str) (u : Tok) (Q E : Value → Shared → Prop)
    (B : Below A₀ base outer h₀) (F : Fr h₀ L s.heap m) (X : (hd.heap_39 w.params).In h₀) (N : News h₀ L s.heap news) (T : Top hd.view_39 (looseW hd.view_39 []) mean mg mb h₀) (hk : cs.kind = .function)
    (hd : dp + 1 < recursionLimit) (hu : un + 8 < cLine) (hl : s.heap.IsList l vs.toArray) (hv : StrsAre vs xs)
    (ret : ∀ h' tk', Fr h₀ L h' m → News h₀ L h' news → Q (.bool (xs.any (· == y))) { s with heap := h', toks := tk' }) :
    wpAny (model prog w) (ktrTop dp un gd cn cs L a ccd cl outer) (call (.ref 49) [.ref l, .str y u]) Q E s := by
  refine wpAny_call ?_
  (refine' enterA ?k1 ?k2 ?k3 ?k4 ?k5 ?kA ?kF ?kK ?k6 ?k7 ?k8 ?k9 ?kB ?_ ?c2 ?c3 ?c4 ?c5; (case kA => exact rfl); (case kF => exact rfl); (case kK => assumption); (case k1 => k_asm); (case k2 => k_asm); (case k3 => k_asm); (case k4 => k_asm); (case k5 => k_asm); (case k6 => k_is); (case k7 => k_is); (case k8 => ktr_room); (case k9 => exact BindsTo.of_eq rfl); (case c5 => decide); (case kB => exact locs rfl); (case c2 => exact rfl); (case c3 => exact rfl); (case c4 => exact rfl); k_whole; intro L' h' F' N' B' X' T'; (try dsimp only))
  refine wpAny_execs_cons ?_
  k_steps
  exact ⟨L', _, F', fun FB NB => ret _ _ FB NB⟩
end Mine

/-! CompT -/
namespace Mine
open PySem PySem.W PyProof.Rows PySem.Calls PySem.Spec
set_option maxRecDepth 100000
set_option maxHeartbeats 8000000
example : True := by (w_top off); trivial
open LCg
/-! ## a list comprehension over an iterator whose tokens are told -/
structure WalkT (prog : Program) (w : World) (A : Around) (I : Addr) (n : Nat) (P : Nat → Value → Nat → Prop) (St : Nat → Heap → Prop) : Prop where
  live : ∀ i h, St i h → ∃ o, h.get? I = some o
  frame : ∀ i h h' o, St i h → h.get? I = some o → h'.get? I = some o → St i h'
  item : ∀ i (s : Shared) (Q : Option Value → Shared → Prop) (E : Value → Shared → Prop), i < n → St i s.heap →
    (∀ v h' tk, P i v s.toks → s.toks ≤ tk → St (i + 1) h' → (∀ b o, b ∉ [I] → s.heap.get? b = some o → h'.get? b = some o) → Q (some v) { s with heap := h', toks := tk }) → wpAny (model prog w) A (pyNext (.ref I)) Q E s
  done : ∀ (s : Shared) (Q : Option Value → Shared → Prop) (E : Value → Shared → Prop), St n s.heap →
    (∀ h' tk, s.toks ≤ tk → (∀ b o, b ∉ [I] → s.heap.get? b = some o → h'.get? b = some o) → Q none { s with heap := h', toks := tk }) → wpAny (model prog w) A (pyNext (.ref I)) Q E s
  self : ∀ i (s : Shared) (Q : Value → Shared → Prop) (E : Value → Shared → Prop), St i s.heap → Q (.ref I) s → wpAny (model prog w) A (pyIter (.ref I)) Q E s
theorem WalkT.of {prog : Program} {w : World} {A : Around} {I : Addr} {n : Nat} {P : Nat → Value → Prop} {St : Nat → Heap → Prop} (W : Walks prog w A I [I] [I] n P St) (live : ∀ i h, St i h → ∃ o, h.get? I = some o) :
    WalkT prog w A I n (fun i v _ => P i v) St where
  live := live
  frame := fun i h h' o st e e' => W.frame i h h' st fun b hb o' x => by
    rw [List.mem_singleton.mp hb] at x ⊢; rw [e] at x; rw [e']; exact x
  item := fun i s Q E hi st hQ => wpAny_tk (W.item i s _ E hi st fun v h' tk hP hs hk ht => hQ v h' tk hP ht hs hk)
  done := fun s Q E st hQ => wpAny_tk (W.done s _ E st fun h' tk hk ht => hQ h' tk ht hk)
  self := W.self
theorem WalkT.ascii {prog : Program} {w : World} {A : Around} (hh : A.handled = none) (I : Addr) (x : Str) (t : Tok) :
    WalkT prog w A I x.cps.size (fun i v t₀ => ∃ c, x.cps[i]? = some c ∧ v = .str ⟨#[c]⟩ t₀) (fun i h => h.IsStrIter I "str_ascii_iterator" x t i) :=
  let W := WalkT.of (Walks.strAscii (prog := prog) (w := w) hh I x t) fun i h st => let ⟨o, ho, _⟩ := st; ⟨o, ho⟩
  { live := W.live, frame := W.frame, done := W.done, self := W.self,
    item := fun i s Q E hi st hQ => wpAny_pyNext_ascii_item st (c := x.cps[i]) (by simp [hi]) fun h' hit' hs' =>
      hQ _ h' (s.toks + 1) ⟨_, by simp [hi], rfl⟩ (Nat.le_succ _) hit' fun b o hb e => (hs'.2 b (by simpa using hb)).trans e }

section
variable {prog : Program} {w : World} {A : Around} {E : Value → Shared → Prop} {s : Shared} {h₀ : Heap} {L : Addr} {m : Str → Option Value} {env : Env}
theorem comp_T {elt iter : Expr} {x : Str} {px : Pos} {scope : Scope} {cl : List (Str × Addr)} {pos pos' : Pos} {Q : Value → Shared → Prop} {xv : Value} {n lo : Nat} {P : Nat → Value → Nat → Prop} {St : Addr → Nat → Heap → Prop} {news : List (Addr × Obj)} {o0 : Obj}
    (hclos : closureFor scope env = pure cl) (hcell : ∀ y ∈ scope.names, y.2 ≠ .cell) (hkind : scope.kind = .function)
    (hnames : ∀ y ∈ scope.names, y.2 = .local → scope.names.lookup y.1 = some .local) (hx : scope.names.lookup x = some .local)
    (hs : ∀ x, foldedSetIterable iter env x = pure x)
    (J : Nat → List Value → Prop)
    (hit : ∀ Q' : Value → Shared → Prop, Q' (.ref s.heap.objs.size) { s with heap := s.heap.push o0 } → wpAny (model prog w) A (pyIter xv) Q' E s)
    (W : WalkT prog w A s.heap.objs.size n P (St s.heap.objs.size)) (hst : St s.heap.objs.size 0 (s.heap.push o0))
    (F : Fr h₀ L s.heap m) (N : News h₀ L s.heap news) (hn : n ≤ sizeLine) (hlo : lo ≤ s.toks) (hJ0 : J 0 [])
    (turn : ∀ i v ys I oI C oC D m₂ h t₀ t₁, i < n → P i v t₀ → lo ≤ t₀ → t₀ ≤ t₁ → J i ys → NsObj oC m₂ → m₂ x = some v → Fr h₀ L h m → News h₀ L h ((I, oI) :: (C, oC) :: (D, lst ys) :: news) → Off3 I C D news → ((@Ne Nat I C) ∧ (@Ne Nat I D) ∧ (@Ne Nat C D)) →
      wpAny (model prog w) A (eval elt (compEnvC scope cl C env)) (fun y s' => ∃ h' tk', s' = { s with heap := h', toks := tk' } ∧ Fr h₀ L h' m ∧ News h₀ L h' ((I, oI) :: (C, oC) :: (D, lst ys) :: news) ∧ J (i + 1) (ys ++ [y])) (fun _ _ => False) { s with heap := h, toks := t₁ })
    (fin : ∀ D h tk ys, J n ys → lo ≤ tk → ys.length = n → Fr h₀ L h m → News h₀ L h ((D, lst ys) :: news) → Off1 D news → Q (.ref D) { s with heap := h, toks := tk }) :
    wpAny (model prog w) A (comprehension (.ListComp elt [⟨.Name x px, iter, [], 0⟩] scope pos) scope env pos' (newList []) false (pure xv)) Q E s := by
  refine wpAny_comprehension_free (use := none) rfl hs hclos hkind hnames (wpAny_pure (hit _ ?_))
  have hI₀ : h₀.get? s.heap.objs.size = none := next_is_new F
  have hIL : L ≠ s.heap.objs.size := Nat.ne_of_lt F.ns.lt
  have offI : ∀ p ∈ news, p.1 ≠ s.heap.objs.size := fun p hp => Nat.ne_of_lt (Heap.lt_size (N p hp).1)
  have F1 := F.push o0
  have N1 : News h₀ L (s.heap.push o0) news := fun p hp => ⟨Heap.get?_push_of_some _ (N p hp).1, (N p hp).2⟩
  generalize hI : s.heap.objs.size = I at *
  have hIlt : I < (s.heap.push o0).objs.size := by rw [Heap.size_push, hI]; exact Nat.lt_succ_self _
  generalize s.heap.push o0 = H1 at *
  refine wpAny_newObj_type (wpAny_newFunctionEnv hcell (by intro y hy; simp at hy) (fun h₁ hns₁ hsb₁ => ?_) hkind)
  dsimp only at hns₁ hsb₁ ⊢
  have hD₀ : h₀.get? H1.objs.size = none := next_is_new F1
  generalize hD : H1.objs.size = D at *
  have hP : (H1.push { cls := .type "list", dict := none, data := .seq ([] : List Value).toArray }).get? D = some (lst []) := by rw [← hD]; exact Heap.get?_push_size _ rfl
  have up1 : ∀ b o, H1.get? b = some o → (H1.push { cls := .type "list", dict := none, data := .seq ([] : List Value).toArray }).get? b = some o := fun b o e => Heap.get?_push_of_some _ e
  have hC : (H1.push { cls := .type "list", dict := none, data := .seq ([] : List Value).toArray }).objs.size = D + 1 := by rw [Heap.size_push, hD]
  generalize H1.push { cls := .type "list", dict := none, data := .seq ([] : List Value).toArray } = H2 at *
  rw [hC] at hns₁ hsb₁ ⊢
  have F2 := F1.keeps up1
  have hC₀ : h₀.get? (D + 1) = none := by rw [← hC]; exact next_is_new F2
  generalize hCC : D + 1 = C at *
  have hCD : C ≠ D := by rw [← hCC]; exact Nat.succ_ne_self _
  have hID : I ≠ D := Nat.ne_of_lt hIlt
  have hIC : I ≠ C := by rw [← hCC]; exact Nat.ne_of_lt (Nat.lt_succ_of_lt hIlt)
  have hLD : L < D := by rw [← hD]; exact F1.ns.lt
  have hLD' : D ≠ L := Nat.ne_of_gt hLD
  have hCL : C ≠ L := by rw [← hCC]; exact Nat.ne_of_gt (Nat.lt_succ_of_lt hLD)
  have offD : ∀ p ∈ news, p.1 ≠ D := fun p hp => by rw [← hD]; exact Nat.ne_of_lt (Heap.lt_size (N1 p hp).1)
  have offC : ∀ p ∈ news, p.1 ≠ C := fun p hp => by
    rw [← hC]; exact Nat.ne_of_lt (Heap.lt_size (up1 _ _ (N1 p hp).1))
  have off3 : Off3 I C D news := Off3.of fun p hp => ⟨offI p hp, offC p hp, offD p hp⟩
  have old : ∀ b o, b ≠ C → H2.get? b = some o → h₁.get? b = some o := fun b o q e => hsb₁.extBut b o q (Heap.get?_push_of_some _ e)
  obtain ⟨oI0, hoI0⟩ := W.live _ _ hst
  have hoI1 : h₁.get? I = some oI0 := old _ _ hIC (up1 _ _ hoI0)
  have hst₁ : St I 0 h₁ := W.frame _ _ _ _ hst hoI0 hoI1
  have F3 : Fr h₀ L h₁ m := (F2.push _).change hsb₁ hCL hC₀
  have N3 : News h₀ L h₁ ((D, lst []) :: news) := fun p hp => by
    rcases List.mem_cons.mp hp with rfl | hp
    · exact ⟨old _ _ (Ne.symm hCD) hP, hLD', hD₀⟩
    · exact ⟨old _ _ (offC p hp) (up1 _ _ (N1 p hp).1), (N1 p hp).2⟩
  have loop : ∀ s₃ : Shared, s₃ = { s with heap := h₁, toks := s.toks + ([] : List (Str × Value)).length } →
      codeAny (model prog w) A (.compLoop (.ListComp elt [⟨.Name x px, iter, [], 0⟩] scope pos) 0 (.ref I) (.ref D) (compEnvC scope cl C env))
        (compPost (model prog w) A E none Q (.ref D) C) s₃ := by
    rintro s₃ rfl
    refine codeAny_compLoop_tests
      (fun k s' => ∃ h' tk i ys m', s' = { s with heap := h', toks := tk } ∧ i ≤ n ∧ k = n + 1 - i ∧ ys.length = i ∧ lo ≤ tk ∧ St I i h' ∧ Fr h₀ L h' m ∧ h'.Ns C m' ∧ News h₀ L h' ((D, lst ys) :: news) ∧ J i ys) ?_ (n + 1)
      ⟨h₁, _, 0, [], _, rfl, Nat.zero_le _, rfl, rfl, hlo, hst₁, F3, hns₁, N3, hJ0⟩
    rintro k s' ⟨h', tk, i, ys, m', rfl, hi, rfl, hyl, hlk, hst', F', hn', N', hJ⟩
    by_cases hlt : i < n
    · refine W.item i _ _ _ hlt hst' fun v h₂ tk₂ hPv htk₂ hst₂ hk₂ => ?_
      have hk₂' : ∀ b o, b ≠ I → h'.get? b = some o → h₂.get? b = some o := fun b o q => hk₂ b o (by simpa using q)
      refine wpAny_assign_Name (wpAny_storeName_local (lookup_relabel_local hx) (hn'.at' fun o e => hk₂' _ o (Ne.symm hIC) e) (fun h₃ hn₃ hs₃ => ?_) (by simp [compEnvC, relabel, hkind]))
      refine wpAny_tests_nil ?_
      simp only [if_true]
      obtain ⟨oI2, hoI2⟩ := W.live _ _ hst₂
      have hoI3 : h₃.get? I = some oI2 := hs₃.extBut _ _ hIC hoI2
      have hst₃ : St I (i + 1) h₃ := W.frame _ _ _ _ hst₂ hoI2 hoI3
      obtain ⟨oC, heC, hoC⟩ := ns_obj hn₃
      have F₃ : Fr h₀ L h₃ m := (fr_but F' hk₂ hIL hI₀).change hs₃ hCL hC₀
      have N₃ : News h₀ L h₃ ((I, oI2) :: (C, oC) :: (D, lst ys) :: news) := fun p hp => by
        rcases List.mem_cons.mp hp with rfl | hp
        · exact ⟨hoI3, Ne.symm hIL, hI₀⟩
        · rcases List.mem_cons.mp hp with rfl | hp
          · exact ⟨heC, hCL, hC₀⟩
          · have z := N' p hp
            have qI : p.1 ≠ I := by
              rcases List.mem_cons.mp hp with rfl | hp
              · exact Ne.symm hID
              · exact offI p hp
            have qC : p.1 ≠ C := by
              rcases List.mem_cons.mp hp with rfl | hp
              · exact Ne.symm hCD
              · exact offC p hp
            exact ⟨hs₃.extBut _ _ qC (hk₂' _ _ qI z.1), z.2⟩
      refine wpAny_tk (wpAny_mono (turn i v ys I oI2 C oC D _ h₃ tk _ hlt hPv hlk ?_ hJ hoC (by simp) F₃ N₃ off3 ⟨hIC, hID, hCD⟩) (fun y s₄ h₄ ht₄ => ?_) fun _ _ e => e.elim)
      · exact Nat.le_trans htk₂ (Nat.le_add_right tk₂ _)
      obtain ⟨h₄, tk₄, rfl, F₄, N₄, hJ₄⟩ := h₄
      have zI := (N₄ (I, oI2) List.mem_cons_self).1
      have zC := (N₄ (C, oC) (List.mem_cons_of_mem _ List.mem_cons_self)).1
      have zD := (N₄ (D, lst ys) (List.mem_cons_of_mem _ (List.mem_cons_of_mem _ List.mem_cons_self))).1
      refine append_at (hsz := by show ys.toArray.size ≤ sizeLine; rw [List.size_toArray, hyl]; exact Nat.le_trans hi hn) zD fun h₅ hs₅ hD₅ => ?_
      have hoI5 : h₅.get? I = some oI2 := hs₅.extBut _ _ hID zI
      refine ⟨n + 1 - (i + 1), by omega, h₅, tk₄, i + 1, ys ++ [y], _, rfl, hlt, rfl, by rw [List.length_append, List.length_singleton, hyl], ?_, W.frame _ _ _ _ hst₃ hoI3 hoI5, F₄.change hs₅ hLD' hD₀,
        (hoC.ns zC).sameBut hs₅ hCD, fun p hp => ?_, hJ₄⟩
      · exact Nat.le_trans hlk (Nat.le_trans htk₂ (Nat.le_trans (Nat.le_add_right tk₂ _) ht₄))
      · rcases List.mem_cons.mp hp with rfl | hp
        · exact ⟨hD₅.trans (congrArg some (lst_snoc ys y)), hLD', hD₀⟩
        · have z := N₄ p (List.mem_cons_of_mem _ (List.mem_cons_of_mem _ (List.mem_cons_of_mem _ hp)))
          exact ⟨hs₅.extBut _ _ (offD p hp) z.1, z.2⟩
    · obtain rfl : i = n := Nat.le_antisymm hi (Nat.not_lt.mp hlt)
      refine W.done _ _ _ hst' fun h₂ tk₂ htk₂ hk₂ => ?_
      refine ⟨m', hn'.at' fun o e => hk₂ _ o (by simpa using Ne.symm hIC) e, fun h'' hs'' => fin D h'' tk₂ ys hJ (Nat.le_trans hlk htk₂) hyl ((fr_but F' hk₂ hIL hI₀).change hs'' hCL hC₀) (fun p hp => ?_) off3.one⟩
      have z := N' p hp
      have qI : p.1 ∉ [I] := by
        rw [List.mem_singleton]
        rcases List.mem_cons.mp hp with rfl | hp
        · exact Ne.symm hID
        · exact offI p hp
      have qC : p.1 ≠ C := by
        rcases List.mem_cons.mp hp with rfl | hp
        · exact Ne.symm hCD
        · exact offC p hp
      exact ⟨hs''.extBut _ _ qC (hk₂ _ _ qI z.1), z.2⟩
  exact codeAny_compStart_list (loop _ rfl) (W.self 0 _ _ _ hst₁ (loop _ rfl))
end
end Mine

/-! Tk2 -/
namespace Mine
open PySem PySem.W PyProof.Rows PySem.Calls PySem.Spec
set_option maxRecDepth 100000
set_option maxHeartbeats 400000
example : True := by (w_top off); trivial
section
variable {prog : Program} {w : World} {A : Around} {E : Value → Shared → Prop} {s : Shared} {env : Env}
theorem listComp_first {elt : Expr} {target iter : Expr} {ifs : List Expr} {scope : Scope} {pos : Pos} {Q : Value → Shared → Prop}
    (h : wpAny (model prog w) A (eval iter env) (fun xv s₁ => wpAny (model prog w) A (comprehension (.ListComp elt [⟨target, iter, ifs, 0⟩] scope pos) scope env (firstIterPos [⟨target, iter, ifs, 0⟩] pos) (newList []) false (pure xv)) Q E s₁) E s) :
    wpAny (model prog w) A (eval (.ListComp elt [⟨target, iter, ifs, 0⟩] scope pos) env) Q E s := by
  rw [eval_ListComp]
  exact wpAny_bind (f := fun xv => comprehension (.ListComp elt [⟨target, iter, ifs, 0⟩] scope pos) scope env (firstIterPos [⟨target, iter, ifs, 0⟩] pos) (newList []) false (pure xv)) h
theorem wpC_listComp_first {elt : Expr} {target iter : Expr} {ifs : List Expr} {scope : Scope} {pos : Pos} {Q : Value → Shared → Prop}
    (h : wpC (model prog w) A (eval iter env) (fun xv s₁ => wpAny (model prog w) A (comprehension (.ListComp elt [⟨target, iter, ifs, 0⟩] scope pos) scope env (firstIterPos [⟨target, iter, ifs, 0⟩] pos) (newList []) false (pure xv)) Q E s₁) E s) :
    wpC (model prog w) A (eval (.ListComp elt [⟨target, iter, ifs, 0⟩] scope pos) env) Q E s := by
  rw [eval_ListComp]
  exact wpC_bind (f := fun xv => comprehension (.ListComp elt [⟨target, iter, ifs, 0⟩] scope pos) scope env (firstIterPos [⟨target, iter, ifs, 0⟩] pos) (newList []) false (pure xv)) (wpC_mono h (fun _ _ h => wpC_of h) fun _ _ h => h)
theorem join_fresh {x : Str} {t : Tok} {D : Addr} {items : Array Value} {ys : List Str} {Q : Value → Shared → Prop} (hl : s.heap.IsList D items) (hi : StrsAre items.toList ys) (hok : (ys.map (·.length)).sum + ys.length * x.length ≤ 16777216)
    (h2 : 2 ≤ ys.length) (h : Q (.str (Txt.join x ys) s.toks) { s with toks := s.toks + 1 }) : wpAny (model prog w) A (call (.builtin "str.join") [.str x t, .ref D]) Q E s := by
  obtain ⟨l, hv, ht⟩ := strsAre_values hi
  have e : items = (strValues l).toArray := by rw [← hv]
  subst e
  subst ht
  have hok' := joinOk_of hok
  unfold JoinOk at hok'
  rw [Bool.not_eq_true'] at hok'
  refine call_meets F.slot_str_join (typeIs_str _ _ _) F.entry_str_join (F.args_str_join_2 _ _) (meets_str_join_list x t D l hok') ⟨hl, ?_⟩
  have fit := joinFit_length hok'
  clear hok hok' hi hl
  generalize hS : sizeLine = S at fit
  cases l with
  | nil => exact absurd h2 (by simp)
  | cons p r =>
    cases r with
    | nil => exact absurd h2 (by simp)
    | cons q r' =>
      show (Builtin.Str.glued x ((p :: q :: r').map (·.1))).length ≤ sizeLine ∧ _
      rw [hS]
      exact And.intro fit h
theorem slice_tk {x : Str} {t : Tok} {l u : Option (Int × Tok)} {lo : Nat} {Q : Value → Shared → Prop} (hz : x.length ≤ sizeLine) (h1 : lo ≤ t) (h2 : lo ≤ s.toks)
    (hq : ∀ t' k, lo ≤ t' → Q (.str (Txt.slice x (l.map (·.1)) (u.map (·.1))) t') { s with toks := k }) : (sliceMade x t l u none).post Q s := by
  have z : (Txt.slice x (l.map (·.1)) (u.map (·.1))).length ≤ sizeLine := Nat.le_trans (Txt.slice_le x _ _) hz
  unfold sliceMade
  by_cases c : ((Option.map (fun x : Int × Tok => x.fst) none).getD (1 : Int) == 1 && (slicePicked x l u none).length == x.length) = true
  · rw [if_pos c]
    have e : Txt.slice x (l.map (·.1)) (u.map (·.1)) = x := by unfold Txt.slice; exact if_pos c
    have := hq t s.toks h1
    rw [e] at this; exact this
  · rw [if_neg c]
    have e : Txt.slice x (l.map (·.1)) (u.map (·.1)) = ⟨((slicePicked x l u none).filterMap (x.cps[·]?)).toArray⟩ := by unfold Txt.slice; exact if_neg c
    have := hq s.toks (s.toks + 1) h2
    rw [e] at this z
    exact ⟨z, this⟩
end
end Mine

/-! CompS -/
namespace Mine
open PySem PySem.W PyProof.Rows PySem.Calls PySem.Spec
set_option maxRecDepth 100000
set_option maxHeartbeats 400000
example : True := by (w_top off); trivial
open LCg
section
variable {prog : Program} {w : World} {A : Around} {E : Value → Shared → Prop} {s : Shared} {h₀ : Heap} {L : Addr} {m : Str → Option Value} {env : Env}
theorem walk_list (hh : A.handled = none) (I : Addr) (l : List Nat) (t : Tok) : WalkT prog w A I l.length (fun i v t₀ => ∃ c, l[i]? = some c ∧ v = .str ⟨#[c]⟩ t₀) (fun i h => h.IsStrIter I "str_ascii_iterator" ⟨l.toArray⟩ t i) := by
  have z := WalkT.ascii (prog := prog) (w := w) hh I ⟨l.toArray⟩ t
  simpa using z
theorem comp_str {elt iter : Expr} {x : Str} {px : Pos} {scope : Scope} {cl : List (Str × Addr)} {pos pos' : Pos} {Q : Value → Shared → Prop} {news : List (Addr × Obj)} {t : Tok} (l : List Nat) (lo : Nat) (J : Nat → List Value → Prop)
    (hh : A.handled = none) (hasc : ∀ d ∈ l, d < 128)
    (hclos : closureFor scope env = pure cl) (hcell : ∀ y ∈ scope.names, y.2 ≠ .cell) (hkind : scope.kind = .function)
    (hnames : ∀ y ∈ scope.names, y.2 = .local → scope.names.lookup y.1 = some .local) (hx : scope.names.lookup x = some .local)
    (hs : ∀ x, foldedSetIterable iter env x = pure x)
    (F : Fr h₀ L s.heap m) (N : News h₀ L s.heap news) (hn : l.length ≤ sizeLine) (hlo : lo ≤ s.toks) (hJ0 : J 0 [])
    (turn : ∀ i c ys I oI C oC D m₂ h t₀ t₁, l[i]? = some c → lo ≤ t₀ → t₀ ≤ t₁ → J i ys → NsObj oC m₂ → m₂ x = some (.str ⟨#[c]⟩ t₀) → Fr h₀ L h m → News h₀ L h ((I, oI) :: (C, oC) :: (D, lst ys) :: news) → Off3 I C D news → ((@Ne Nat I C) ∧ (@Ne Nat I D) ∧ (@Ne Nat C D)) →
      wpAny (model prog w) A (eval elt (compEnvC scope cl C env)) (fun y s' => ∃ h' tk', s' = { s with heap := h', toks := tk' } ∧ Fr h₀ L h' m ∧ News h₀ L h' ((I, oI) :: (C, oC) :: (D, lst ys) :: news) ∧ J (i + 1) (ys ++ [y])) (fun _ _ => False) { s with heap := h, toks := t₁ })
    (fin : ∀ D h tk ys, J l.length ys → lo ≤ tk → ys.length = l.length → Fr h₀ L h m → News h₀ L h ((D, lst ys) :: news) → Off1 D news → Q (.ref D) { s with heap := h, toks := tk }) :
    wpAny (model prog w) A (comprehension (.ListComp elt [⟨.Name x px, iter, [], 0⟩] scope pos) scope env pos' (newList []) false (pure (.str ⟨l.toArray⟩ t))) Q E s := by
  refine comp_T (o0 := { cls := .type "str_ascii_iterator", data := .fields #[.str ⟨l.toArray⟩ t, .int 0 0] }) (St := fun I i h => h.IsStrIter I "str_ascii_iterator" ⟨l.toArray⟩ t i) hclos hcell hkind hnames hx hs J (fun Q' h => wpAny_pyIter_ascii ?_ h)
    (walk_list hh _ l t) ⟨_, Heap.get?_push_size _ rfl, rfl, rfl⟩ F N hn hlo hJ0 ?_ fin
  · show l.toArray.all _ = true
    rw [List.all_toArray, List.all_eq_true]
    exact fun d hd => decide_eq_true (hasc d hd)
  · rintro i v ys I oI C oC D m₂ h t₀ t₁ hi ⟨c, hc, rfl⟩ hlo ht hJ hoC hm F N off ne
    exact turn i c ys I oI C oC D m₂ h t₀ t₁ hc hlo ht hJ hoC hm F N off ne
theorem comp_bytes {elt iter : Expr} {x : Str} {px : Pos} {scope : Scope} {cl : List (Str × Addr)} {pos pos' : Pos} {Q : Value → Shared → Prop} {news : List (Addr × Obj)} {t : Tok} (b : Array UInt8) (lo : Nat) (J : Nat → List Value → Prop)
    (hh : A.handled = none)
    (hclos : closureFor scope env = pure cl) (hcell : ∀ y ∈ scope.names, y.2 ≠ .cell) (hkind : scope.kind = .function)
    (hnames : ∀ y ∈ scope.names, y.2 = .local → scope.names.lookup y.1 = some .local) (hx : scope.names.lookup x = some .local)
    (hs : ∀ x, foldedSetIterable iter env x = pure x)
    (F : Fr h₀ L s.heap m) (N : News h₀ L s.heap news) (hn : b.size ≤ sizeLine) (hlo : lo ≤ s.toks) (hJ0 : J 0 [])
    (turn : ∀ i c u ys I oI C oC D m₂ h t₁, b[i]? = some c → lo ≤ t₁ → J i ys → NsObj oC m₂ → m₂ x = some (.int (c.toNat : Int) u) → Fr h₀ L h m → News h₀ L h ((I, oI) :: (C, oC) :: (D, lst ys) :: news) → Off3 I C D news → ((@Ne Nat I C) ∧ (@Ne Nat I D) ∧ (@Ne Nat C D)) →
      wpAny (model prog w) A (eval elt (compEnvC scope cl C env)) (fun y s' => ∃ h' tk', s' = { s with heap := h', toks := tk' } ∧ Fr h₀ L h' m ∧ News h₀ L h' ((I, oI) :: (C, oC) :: (D, lst ys) :: news) ∧ J (i + 1) (ys ++ [y])) (fun _ _ => False) { s with heap := h, toks := t₁ })
    (fin : ∀ D h tk ys, J b.size ys → lo ≤ tk → ys.length = b.size → Fr h₀ L h m → News h₀ L h ((D, lst ys) :: news) → Off1 D news → Q (.ref D) { s with heap := h, toks := tk }) :
    wpAny (model prog w) A (comprehension (.ListComp elt [⟨.Name x px, iter, [], 0⟩] scope pos) scope env pos' (newList []) false (pure (.bytes b t))) Q E s := by
  refine comp_T (o0 := { cls := .type "bytes_iterator", data := .fields #[.bytes b t, .int 0 0] }) (St := fun I i h => KBw.IsBytesIter h I b t i) hclos hcell hkind hnames hx hs J (fun Q' h => KBw.pyIter_bytes h)
    (WalkT.of (KBw.walks hh _ b t) fun i h st => let ⟨o, ho, _⟩ := st; ⟨o, ho⟩) ⟨_, Heap.get?_push_size _ rfl, rfl, rfl⟩ F N hn hlo hJ0 ?_ fin
  rintro i v ys I oI C oC D m₂ h t₀ t₁ hi ⟨c, u, hc, rfl⟩ hlo ht hJ hoC hm F N off ne
  exact turn i c u ys I oI C oC D m₂ h t₁ hc (Nat.le_trans hlo ht) hJ hoC hm F N off ne
end
end Mine

/-! ImgL -/
namespace Mine
open PySem PySem.W PyProof.Rows PySem.Calls PySem.Spec
set_option maxRecDepth 100000
set_option maxHeartbeats 400000
example : True := by (w_top off); trivial
/-! ## the texts of _law_image -/
def refVals (b t : Nat) : Array Value := if b = 0 then #[.str "&amp;" t, .str "&#13;" (t + 1), .str "&#10;" (t + 1 + 1), .str "&#09;" (t + 1 + 1 + 1)] else #[.str "&amp;" t, .str "&#xD;" (t + 1), .str "&#xA;" (t + 1 + 1), .str "&#x9;" (t + 1 + 1 + 1)]
def behOf (b : Nat) : Str := if b = 0 then "&lt;&gt;&quot;" else "&lt;>&quot;"
def pageOf (b : Nat) (l : List Nat) : List Nat := if b = 0 then stage psA (l ++ [60, 62, 34]) else stage psC (l ++ [60, 62, 34])
def sg (c : Nat) : Str := ⟨#[c]⟩
theorem four_idx : ∀ c, c ∈ four → four.idxOf c < 4 ∧ (four.map sg)[four.idxOf c]? = some (sg c) ∧ ∀ i d, i < four.idxOf c → (four.map sg)[i]? = some d → d ≠ sg c := by
  intro c hc
  simp only [four, List.mem_cons, List.not_mem_nil, or_false] at hc
  have key : ∀ k : Nat, k < 4 → ∀ i d, i < k → (four.map sg)[i]? = some d → some d ≠ (four.map sg)[k]? := by
    intro k hk i d hi hd
    have : ∀ k < 4, ∀ i < k, (four.map sg)[i]? ≠ (four.map sg)[k]? := by decide
    rw [← hd]; exact this k hk i hi
  have fin : ∀ k : Nat, k < 4 → (four.map sg)[k]? = some (sg c) → k = four.idxOf c → four.idxOf c < 4 ∧ (four.map sg)[four.idxOf c]? = some (sg c) ∧ ∀ i d, i < four.idxOf c → (four.map sg)[i]? = some d → d ≠ sg c := by
    rintro k hk h rfl
    exact ⟨hk, h, fun i d hi hd q => key _ hk i d hi hd (by rw [h, q])⟩
  rcases hc with rfl | rfl | rfl | rfl
  · exact fin 0 (by decide) rfl rfl
  · exact fin 1 (by decide) rfl rfl
  · exact fin 2 (by decide) rfl rfl
  · exact fin 3 (by decide) rfl rfl
def refs (b : Nat) : List Str := if b = 0 then ["&amp;", "&#13;", "&#10;", "&#09;"] else ["&amp;", "&#xD;", "&#xA;", "&#x9;"]
def refText (b i : Nat) : Str := (refs b).getD i ""
theorem refs_len (b : Nat) : (refs b).length = 4 := by unfold refs; split <;> rfl
theorem refVals_get (b t : Nat) {i : Nat} (hi : i < 4) : ∃ tt : Nat, (refVals b t)[i]? = some (.str (refText b i) tt) ∧ (refs b)[i]? = some (refText b i) ∧ t ≤ tt ∧ tt < t + 4 := by
  unfold refVals refText refs
  have h : i = 0 ∨ i = 1 ∨ i = 2 ∨ i = 3 := by omega
  by_cases hb : b = 0
  · rw [if_pos hb, if_pos hb]
    rcases h with rfl | rfl | rfl | rfl
    · exact ⟨t, rfl, rfl, Nat.le_refl _, by omega⟩
    · exact ⟨t + 1, rfl, rfl, by omega, by omega⟩
    · exact ⟨t + 1 + 1, rfl, rfl, by omega, by omega⟩
    · exact ⟨t + 1 + 1 + 1, rfl, rfl, by omega, by omega⟩
  · rw [if_neg hb, if_neg hb]
    rcases h with rfl | rfl | rfl | rfl
    · exact ⟨t, rfl, rfl, Nat.le_refl _, by omega⟩
    · exact ⟨t + 1, rfl, rfl, by omega, by omega⟩
    · exact ⟨t + 1 + 1, rfl, rfl, by omega, by omega⟩
    · exact ⟨t + 1 + 1 + 1, rfl, rfl, by omega, by omega⟩
theorem refVals_size (b t : Nat) : (refVals b t).size = 4 := by unfold refVals; split <;> rfl
theorem refVals_strs (b t : Nat) : StrsAre (refVals b t).toList (refs b) := by
  unfold refVals refs
  by_cases hb : b = 0
  · rw [if_pos hb, if_pos hb]; exact .cons _ _ (.cons _ _ (.cons _ _ (.cons _ _ .nil)))
  · rw [if_neg hb, if_neg hb]; exact .cons _ _ (.cons _ _ (.cons _ _ (.cons _ _ .nil)))
theorem refVals_tok {b t i : Nat} {v : Value} (h : (refVals b t)[i]? = some v) : ∃ (x : Str) (tt : Tok), v = .str x tt ∧ (refs b)[i]? = some x ∧ (t : Nat) ≤ tt ∧ (tt : Nat) < t + 4 := by
  have hi : i < 4 := by
    rcases Nat.lt_or_ge i 4 with q | q
    · exact q
    · rw [Array.getElem?_eq_none (by rw [refVals_size]; exact q)] at h; cases h
  obtain ⟨tt, hg, hr, h1, h2⟩ := refVals_get b t hi
  rw [hg] at h; cases h
  exact ⟨_, _, rfl, hr, h1, h2⟩
def refOf (b c : Nat) : Str := refText b (four.idxOf c)
def refL (b c : Nat) : List Nat := (refOf b c).cps.toList
theorem refL_len {b c : Nat} (h : c ∈ four) : (refL b c).length = 5 := by
  unfold refL refOf refText refs
  by_cases hb : b = 0
  · rw [if_pos hb]
    have : ∀ c ∈ four, (([("&amp;" : Str), "&#13;", "&#10;", "&#09;"].getD (four.idxOf c) "").cps.toList).length = 5 := by decide +kernel
    exact this c h
  · rw [if_neg hb]
    have : ∀ c ∈ four, (([("&amp;" : Str), "&#xD;", "&#xA;", "&#x9;"].getD (four.idxOf c) "").cps.toList).length = 5 := by decide +kernel
    exact this c h
theorem refL_small {b c : Nat} (h : c ∈ four) : ∀ d ∈ refL b c, d < 128 := by
  unfold refL refOf refText refs
  by_cases hb : b = 0
  · rw [if_pos hb]
    have : ∀ c ∈ four, ∀ d ∈ ([("&amp;" : Str), "&#13;", "&#10;", "&#09;"].getD (four.idxOf c) "").cps.toList, d < 128 := by decide +kernel
    exact this c h
  · rw [if_neg hb]
    have : ∀ c ∈ four, ∀ d ∈ ([("&amp;" : Str), "&#xD;", "&#xA;", "&#x9;"].getD (four.idxOf c) "").cps.toList, d < 128 := by decide +kernel
    exact this c h
theorem refL_stage {b c : Nat} (h : c ∈ four) : stage (if b = 0 then psA else psC) [c] = refL b c := by
  unfold refL refOf refText refs
  by_cases hb : b = 0
  · rw [if_pos hb, if_pos hb]
    have : ∀ c ∈ four, stage psA [c] = ([("&amp;" : Str), "&#13;", "&#10;", "&#09;"].getD (four.idxOf c) "").cps.toList := by decide +kernel
    exact this c h
  · rw [if_neg hb, if_neg hb]
    have : ∀ c ∈ four, stage psC [c] = ([("&amp;" : Str), "&#xD;", "&#xA;", "&#x9;"].getD (four.idxOf c) "").cps.toList := by decide +kernel
    exact this c h
theorem beh_stage (b : Nat) : stage (if b = 0 then psA else psC) [60, 62, 34] = (behOf b).cps.toList := by
  unfold behOf
  by_cases hb : b = 0
  · rw [if_pos hb, if_pos hb]; decide +kernel
  · rw [if_neg hb, if_neg hb]; decide +kernel
theorem flatMap_same {α β : Type} {f g : α → List β} : ∀ {l : List α}, (∀ d ∈ l, f d = g d) → l.flatMap f = l.flatMap g
  | [], _ => rfl
  | d :: l, h => by rw [List.flatMap_cons, List.flatMap_cons, h d (List.mem_cons_self ..), flatMap_same fun e he => h e (List.mem_cons_of_mem _ he)]
theorem page_split {b : Nat} {l : List Nat} (h : ∀ d ∈ l, d ∈ four) : pageOf b l = l.flatMap (refL b) ++ (behOf b).cps.toList := by
  have e : pageOf b l = stage (if b = 0 then psA else psC) (l ++ [60, 62, 34]) := by unfold pageOf; split <;> rfl
  rw [e, stage_append, beh_stage, stage_each]
  congr 1
  exact flatMap_same fun d hd => refL_stage (h d hd)
theorem str_ext {x y : Str} (h : x.cps.toList = y.cps.toList) : x = y := congrArg Str.mk (Array.toList_inj.mp h)
theorem join_flat (l : List Str) : (Txt.join (Str.ofString "") l).cps.toList = l.flatMap fun q => q.cps.toList := by
  show (Builtin.Str.glued (Str.ofString "") l).cps.toList = _
  rw [StrLaws.glued_eq_join]
  cases l with
  | nil => rfl
  | cons p ps =>
    rw [join_list, List.flatMap_cons]
    congr 1
theorem page_join {b : Nat} {l : List Nat} (h : ∀ d ∈ l, d ∈ four) : (⟨(pageOf b l).toArray⟩ : Str) = Txt.join (Str.ofString "") (l.map (refOf b)) ++ behOf b := by
  apply str_ext
  rw [Str.cps_append, Array.toList_append, join_flat, List.flatMap_map, page_split h]
  rfl
theorem flat_len5 {f : Nat → List Nat} : ∀ {l : List Nat}, (∀ d ∈ l, (f d).length = 5) → (l.flatMap f).length = 5 * l.length
  | [], _ => rfl
  | d :: l, h => by
    rw [List.flatMap_cons, List.length_append, h d (List.mem_cons_self ..), flat_len5 fun e he => h e (List.mem_cons_of_mem _ he), List.length_cons]; omega
end Mine

/-! SwapL -/
namespace Mine
open PySem PySem.W PyProof.Rows PySem.Calls PySem.Spec
set_option maxRecDepth 100000
set_option maxHeartbeats 400000
example : True := by (w_top off); trivial
/-! ## what _byteswap's loops lay -/
theorem innerL_get (ns : List Int) (i k : Nat) (zs : List Int) (hz : i + k ≤ zs.length) : ∀ j, j ≤ k → ∀ p, (innerL ns i k j zs)[p]? = if i + k - j ≤ p ∧ p < i + k then some (ns.getD (i + (i + k - 1 - p)) 0) else zs[p]?
  | 0, _, p => by rw [if_neg (by omega)]; rfl
  | j + 1, hj, p => by
    rw [innerL, List.getElem?_set, innerL_get ns i k zs hz j (by omega) p, innerL_length]
    by_cases e : i + k - 1 - j = p
    · rw [if_pos e, if_pos (by omega), if_pos (by omega)]
      congr 2
      omega
    · rw [if_neg e]
      by_cases c : i + k - j ≤ p ∧ p < i + k
      · rw [if_pos c, if_pos (by omega)]
      · rw [if_neg c, if_neg (by omega)]
theorem outerL_get (ns : List Int) (k : Nat) (k0 : 0 < k) : ∀ q, q * k ≤ ns.length → ∀ p, p < q * k → (outerL ns k q)[p]? = some (ns.getD (p / k * k + (k - 1 - p % k)) 0)
  | 0, _, p, hp => by omega
  | q + 1, hq, p, hp => by
    rw [Nat.succ_mul] at hq hp
    rw [outerL, innerL_get _ _ _ _ (by rw [outerL_length]; exact hq) k (Nat.le_refl _)]
    by_cases c : q * k ≤ p
    · rw [if_pos (by omega)]
      have e1 : p / k = q := by
        rw [Nat.div_eq_iff k0, Nat.mul_comm]
        have : k * q = q * k := Nat.mul_comm ..
        omega
      have e2 : p % k = p - q * k := by
        have := Nat.div_add_mod p k
        rw [e1, Nat.mul_comm] at this; omega
      rw [e1, e2]
      congr 2
      omega
    · rw [if_neg (by omega)]
      exact outerL_get ns k k0 q (by omega) p (by omega)
theorem swap_one (ns : List Int) (h : 0 < ns.length) : outerL ns ns.length 1 = ns.reverse := by
  apply List.ext_getElem?
  intro p
  by_cases hp : p < ns.length
  · rw [outerL_get ns _ h 1 (by omega) p (by omega), Nat.div_eq_of_lt hp, Nat.mod_eq_of_lt hp, List.getElem?_reverse hp, Nat.zero_mul, Nat.zero_add]
    rw [List.getD_eq_getElem?_getD, List.getElem?_eq_getElem (by omega : ns.length - 1 - p < ns.length)]
    rfl
  · rw [List.getElem?_eq_none (by rw [outerL_length]; omega), List.getElem?_eq_none (by rw [List.length_reverse]; omega)]
theorem flat_get {α : Type} (f : Nat → List α) : ∀ (l : List Nat), (∀ d ∈ l, (f d).length = 5) → ∀ i r, r < 5 → (l.flatMap f)[5 * i + r]? = (l[i]?).bind fun d => (f d)[r]?
  | [], _, i, r, _ => by simp
  | d :: l, h, 0, r, hr => by
    rw [List.flatMap_cons, Nat.mul_zero, Nat.zero_add, List.getElem?_append_left (by rw [h d (List.mem_cons_self ..)]; exact hr)]
    rfl
  | d :: l, h, i + 1, r, hr => by
    have hd := h d (List.mem_cons_self ..)
    rw [List.flatMap_cons, List.getElem?_append_right (by rw [hd]; omega), hd, show 5 * (i + 1) + r - 5 = 5 * i + r by omega, flat_get f l (fun e he => h e (List.mem_cons_of_mem _ he)) i r hr]
    rfl
theorem flat_five {α : Type} {f : Nat → List α} : ∀ {l : List Nat}, (∀ d ∈ l, (f d).length = 5) → (l.flatMap f).length = 5 * l.length
  | [], _ => rfl
  | d :: l, h => by
    rw [List.flatMap_cons, List.length_append, h d (List.mem_cons_self ..), flat_five fun e he => h e (List.mem_cons_of_mem _ he), List.length_cons]; omega
theorem swap_five (f : Nat → List Int) (l : List Nat) (h : ∀ d ∈ l, (f d).length = 5) : outerL (l.flatMap f) 5 l.length = l.flatMap fun d => (f d).reverse := by
  have hr : ∀ d ∈ l, ((f d).reverse).length = 5 := fun d hd => by rw [List.length_reverse]; exact h d hd
  apply List.ext_getElem?
  intro p
  by_cases hp : p < 5 * l.length
  · have hi : p / 5 < l.length := by omega
    have e : l[p / 5]? = some l[p / 5] := List.getElem?_eq_getElem hi
    have hm : l[p / 5] ∈ l := List.getElem_mem hi
    have h5 := h _ hm
    rw [outerL_get _ 5 (by omega) l.length (by rw [flat_five h]; omega) p (by omega)]
    have r1 := flat_get (fun d => (f d).reverse) l hr (p / 5) (p % 5) (by omega)
    rw [show 5 * (p / 5) + p % 5 = p by omega, e] at r1
    rw [r1]
    show _ = (f l[p / 5]).reverse[p % 5]?
    rw [List.getElem?_reverse (by rw [h5]; omega), h5]
    have r2 := flat_get f l h (p / 5) (5 - 1 - p % 5) (by omega)
    rw [e] at r2
    rw [List.getD_eq_getElem?_getD, show p / 5 * 5 + (5 - 1 - p % 5) = 5 * (p / 5) + (5 - 1 - p % 5) by omega, r2]
    show some ((f l[p / 5])[5 - 1 - p % 5]?.getD 0) = _
    rw [List.getElem?_eq_getElem (by rw [h5]; omega)]
    rfl
  · rw [List.getElem?_eq_none (by rw [outerL_length, flat_five h]; omega), List.getElem?_eq_none (by rw [flat_five hr]; omega)]
theorem reverse_flat {α : Type} (f : Nat → List α) : ∀ l : List Nat, (l.flatMap f).reverse = l.reverse.flatMap fun d => (f d).reverse
  | [] => rfl
  | d :: l => by rw [List.flatMap_cons, List.reverse_append, reverse_flat f l, List.reverse_cons, List.flatMap_append]; simp
/-- both swaps: every letter whole, the letters turned about -/
theorem swap_both (f : Nat → List Int) (l : List Nat) (h : ∀ d ∈ l, (f d).length = 5) (h0 : 0 < l.length) :
    outerL (outerL (l.flatMap f) (5 * l.length) 1) 5 l.length = l.reverse.flatMap f := by
  have e := swap_one (l.flatMap f) (by rw [flat_five h]; omega)
  rw [flat_five h] at e
  rw [e, reverse_flat]
  have z := swap_five (fun d => (f d).reverse) l.reverse (fun d hd => by rw [List.length_reverse]; exact h d (List.mem_reverse.mp hd))
  rw [List.length_reverse] at z
  rw [z]
  simp
end Mine

/-! CallC -/
namespace Mine
open PySem PySem.W PyProof.Rows PySem.Calls PySem.Spec
set_option maxRecDepth 100000
set_option maxHeartbeats 400000
example : True := by (w_top off); trivial
section
variable {M : Model} {A : Around} {E : Value → Shared → Prop} {s : Shared} {env : Env}
theorem wpC_spliced1 {x : Sem Value} {Q : List Value → Shared → Prop} (h : wpC M A x (fun v s₁ => Q [v] s₁) E s) : wpC M A (spliced [(false, x)]) Q E s := by
  rw [spliced]
  refine wpC_bind (wpC_mono h (fun v s₁ h₁ => ?_) fun _ _ x => x)
  simp only [Bool.false_eq_true, if_false]
  exact wpC_of (wpAny_bind (wpAny_pure (wpAny_bind (wpAny_holding (spliced_nil (wpAny_pure h₁))))))
theorem wpC_evalArgs1 {f : Value} {x : Sem Value} {Q : Args → Shared → Prop} (h : wpC M A x (fun v s' => Q ⟨[v], []⟩ s') E s) : wpC M A (evalArgs f true [(false, x)] []) Q E s := by
  unfold evalArgs
  show wpC M A (spliced [(false, x)] >>= _) Q E s
  refine wpC_bind (wpC_mono (wpC_spliced1 (Q := fun vs s' => Q ⟨vs, []⟩ s') h) (fun vs s' h' => ?_) fun _ _ x => x)
  exact wpC_of (wpAny_holding (wpAny_bind (wpAny_pure (wpAny_bind (wpAny_pure (wpAny_pure h'))))))
theorem wpC_callWith_builtin1 {pos : Pos} {id : String} {first : List Value} {x : Sem Value} {Q : Value → Shared → Prop}
    (h : wpC M A x (fun v s₁ => wpC M A (call (.builtin id) (first ++ [v])) Q E s₁) E s) :
    wpC M A (callWith pos (.builtin id) first [(false, x)] []) Q E s := by
  unfold callWith
  refine wpC_bind (wpC_holding (wpC_mono (wpC_evalArgs1 (Q := fun a s₁ => a.kw = [] ∧ wpC M A (call (.builtin id) (first ++ a.pos)) Q E s₁) (wpC_mono h (fun v s₁ h₁ => ⟨rfl, h₁⟩) fun _ _ x => x)) (fun a s₁ h₁ => wpC_bindA (wpAny_standAt ?_)) fun _ _ x => x))
  obtain ⟨hk, h₁⟩ := h₁
  simp only [List.any_cons, List.any_nil, Bool.or_false]
  refine wpC_bindA (wpAny_pure ?_)
  rw [hk]
  exact wpC_bind (wpC_mono h₁ (fun r s₂ hr => wpC_bindA (wpAny_holding (wpAny_point (wpC_pure hr)))) fun _ _ x => x)
theorem wpC_MethodCall {o : Expr} {name : Str} {apos pos : Pos} {args : List Expr} {pl : Sem Bool} {Q : Value → Shared → Prop}
    (h : wpAny M A (eval o env) (fun ov s₁ => wpAny M A (getMethod ov name pl) (fun fx s₂ => wpC M A (callWith pos fx.1 fx.2 (backTo pos (starEach args env)) []) Q E s₂) E s₁) E s)
    (he : eval (.Call (.Attribute o name apos) args [] pos) env = (do
      let ov ← eval o env
      standAt apos.atName
      let (f, first) ← holding [ov] (getMethod ov name pl)
      callWith pos f first (backTo pos (starEach args env)) []) := by rfl) :
    wpC M A (eval (.Call (.Attribute o name apos) args [] pos) env) Q E s := by
  rw [he]
  refine wpC_bindA (wpAny_mono h (fun ov s₁ h₁ => wpC_bindA (wpAny_standAt (wpC_bindA (wpAny_holding (wpAny_mono h₁ (fun fx s₂ h₂ => ?_) fun _ _ x => x))))) fun _ _ x => x)
  exact h₂
end
/-- what wpC walks never lowers the tokens either (given in Toks as wpC_tk) -/
theorem wpC_tk' {α : Type} {M : Model} {A : Around} {t : Sem α} {Q : α → Shared → Prop} {E : Value → Shared → Prop} {s : Shared} (h : wpC M A t (fun a s' => s.toks ≤ s'.toks → Q a s') E s) : wpC M A t Q E s := wpC_tk h
end Mine

/-! ForT -/
namespace Mine
open PySem PySem.W PyProof.Rows PySem.Calls PySem.Spec
set_option maxRecDepth 100000
set_option maxHeartbeats 400000
example : True := by (w_top off); trivial
section
variable {prog : Program} {w : World} {A : Around} {E : Value → Shared → Prop} {s : Shared} {h₀ : Heap} {env : Env}
/-- a for over an iterator, the tokens told; the ledger stays -/
theorem for_T {R : Result → Shared → Prop} {x : Str} {px : Pos} {body : List Stmt} {I : Addr} {n lo : Nat} {P : Nat → Value → Nat → Prop} {St : Nat → Heap → Prop} {m₀ : Str → Option Value} {news : List (Addr × Obj)}
    (W : WalkT prog w A I n P St) (J : Nat → (Str → Option Value) → Prop)
    (hx : env.kindOf x = some .local) (hp : (env.scope.kind == .class || (env.scope.kind == .module && env.locals != env.globals)) = false)
    (hst : St 0 s.heap) (hI₀ : h₀.get? I = none) (hLI : env.locals ≠ I) (offI : ∀ p ∈ news, p.1 ≠ I)
    (F : Fr h₀ env.locals s.heap m₀) (N : News h₀ env.locals s.heap news) (hj : J 0 m₀) (hlo : lo ≤ s.toks)
    (turn : ∀ i v m₁ oI h t₀ t₁, i < n → P i v t₀ → lo ≤ t₀ → t₀ ≤ t₁ → J i m₁ → Fr h₀ env.locals h (fun y => if y = x then some v else m₁ y) → News h₀ env.locals h ((I, oI) :: news) →
      wpAny (model prog w) A (execs body env) (fun f s' => f = .next ∧ ∃ h' tk' m₂, s' = { s with heap := h', toks := tk' } ∧ Fr h₀ env.locals h' m₂ ∧ News h₀ env.locals h' ((I, oI) :: news) ∧ J (i + 1) m₂) (fun _ _ => False) { s with heap := h, toks := t₁ })
    (done : ∀ m₁ h tk, lo ≤ tk → J n m₁ → Fr h₀ env.locals h m₁ → News h₀ env.locals h news → R (.ok .next) { s with heap := h, toks := tk })
    (hgo : ∀ v, letOwnedTupleGo (.Name x px) (.ref I) v = pure () := by intro _; rfl) :
    codeAny (model prog w) A (.forLoop (.Name x px) (.ref I) body [] env) R s := by
  refine codeAny_forLoop_any
    (fun k s' => ∃ h' tk m' i, s' = { s with heap := h', toks := tk } ∧ i ≤ n ∧ k = n + 1 - i ∧ lo ≤ tk ∧ St i h' ∧ Fr h₀ env.locals h' m' ∧ News h₀ env.locals h' news ∧ J i m') ?_ (n + 1)
    ⟨s.heap, s.toks, m₀, 0, rfl, Nat.zero_le _, rfl, hlo, hst, F, N, hj⟩
  rintro k s' ⟨H, tk, m', i, rfl, hi, rfl, hlk, hst', F', N', hJ⟩
  by_cases hlt : i < n
  · refine W.item i _ _ _ hlt hst' fun v h₂ tk₂ hPv htk₂ hst₂ hk₂ => ?_
    have hk₂' : ∀ b o, b ≠ I → H.get? b = some o → h₂.get? b = some o := fun b o q => hk₂ b o (by simpa using q)
    refine wpAny_of_eq (hgo v) ?_
    have F2 : Fr h₀ env.locals h₂ m' := LCg.fr_but F' hk₂ hLI hI₀
    refine wpAny_assign_Name (wpAny_storeName_local hx F2.ns (fun h₃ hn₃ hs₃ => ?_) hp)
    have F3 := F2.set hn₃ hs₃
    obtain ⟨oI, hoI⟩ := W.live _ _ hst₂
    have hoI3 : h₃.get? I = some oI := (hs₃.2 I (Ne.symm hLI)).trans hoI
    have hst₃ : St (i + 1) h₃ := W.frame _ _ _ _ hst₂ hoI hoI3
    have N3 : News h₀ env.locals h₃ ((I, oI) :: news) := fun p hp => by
      rcases List.mem_cons.mp hp with rfl | hp
      · exact ⟨hoI3, Ne.symm hLI, hI₀⟩
      · have z := N' p hp
        exact ⟨(hs₃.2 _ z.2.1).trans (hk₂' _ _ (offI p hp) z.1), z.2⟩
    refine wpAny_tk ?_
    refine wpAny_mono (turn i v m' oI h₃ tk _ hlt hPv hlk ?_ hJ F3 N3) (fun f s₄ h₄ ht₄ => ?_) fun _ _ x => x.elim
    · exact Nat.le_trans htk₂ (Nat.le_add_right tk₂ _)
    obtain ⟨rfl, h₅, tk₅, m₂, rfl, F5, N5, hJ5⟩ := h₄
    have zI := (N5 (I, oI) List.mem_cons_self).1
    exact ⟨n + 1 - (i + 1), by omega, h₅, tk₅, m₂, i + 1, rfl, hlt, rfl, Nat.le_trans hlk (Nat.le_trans htk₂ (Nat.le_trans (Nat.le_add_right tk₂ _) ht₄)), W.frame _ _ _ _ hst₃ hoI3 zI, F5, fun p hp => N5 p (List.mem_cons_of_mem _ hp), hJ5⟩
  · obtain rfl : i = n := Nat.le_antisymm hi (Nat.not_lt.mp hlt)
    refine W.done _ _ _ hst' fun h₂ tk₂ htk₂ hk₂ => ?_
    refine wpAny_execs_nil ?_
    exact done m' h₂ tk₂ (Nat.le_trans hlk htk₂) hJ (LCg.fr_but F' hk₂ hLI hI₀) (LCg.news_but N' hk₂ offI)
theorem for_rangeT {R : Result → Shared → Prop} {x : Str} {px : Pos} {body : List Stmt} {r : Addr} {a b c : Int} {t₀ u₀ v₀ : Tok} {n lo : Nat} {m₀ : Str → Option Value} {news : List (Addr × Obj)} (J : Nat → (Str → Option Value) → Prop)
    (hh : A.handled = none) (hx : env.kindOf x = some .local) (hp : (env.scope.kind == .class || (env.scope.kind == .module && env.locals != env.globals)) = false)
    (hr : IsRange s.heap r a b c t₀ u₀ v₀) (hsm : Builtin.Range.small a b c = true) (hn : Builtin.Range.rangeSize a b c = (n : Int)) (F : Fr h₀ env.locals s.heap m₀) (N : News h₀ env.locals s.heap news) (hj : J 0 m₀) (hlo : lo ≤ s.toks)
    (turn : ∀ i t m₁ I oI h t₁, i < n → lo ≤ t₁ → J i m₁ → Fr h₀ env.locals h (fun y => if y = x then some (.int (a + (i : Int) * c) t) else m₁ y) → News h₀ env.locals h ((I, oI) :: news) →
      wpAny (model prog w) A (execs body env) (fun f s' => f = .next ∧ ∃ h' tk' m₂, s' = { s with heap := h', toks := tk' } ∧ Fr h₀ env.locals h' m₂ ∧ News h₀ env.locals h' ((I, oI) :: news) ∧ J (i + 1) m₂) (fun _ _ => False) { s with heap := h, toks := t₁ })
    (done : ∀ m₁ h tk, lo ≤ tk → J n m₁ → Fr h₀ env.locals h m₁ → News h₀ env.locals h news → R (.ok .next) { s with heap := h, toks := tk }) :
    wpAny (model prog w) A (pyIter (.ref r)) (fun it s₂ => codeAny (model prog w) A (.forLoop (.Name x px) it body [] env) R s₂) E s := by
  refine wpAny_pyIter_range hr hsm ?_
  have W : Walks prog w A s.heap.objs.size [s.heap.objs.size] [s.heap.objs.size] n (fun i v => i < n ∧ ∃ t, v = .int (a + i * c) t)
      (fun i h => IsRangeIter h s.heap.objs.size (a + (i : Nat) * c) ((n : Int) - (i : Nat)) c) := (Walks.range hh _ a c n).bound
  refine for_T (WalkT.of W fun i h st => ⟨_, st⟩) J hx hp (by show IsRangeIter _ _ _ _ _; rw [hn]; simpa using Heap.get?_push_size _ rfl) (next_is_new F) (Nat.ne_of_lt F.ns.lt) (fun p hp => Nat.ne_of_lt (Heap.lt_size (N p hp).1))
    (F.push _) (fun p hp => ⟨Heap.get?_push_of_some _ (N p hp).1, (N p hp).2⟩) hj hlo ?_ ?_
  · rintro i v m₁ oI h t₀ t₁ hi ⟨_, t, rfl⟩ hlo ht hJ F N
    exact turn i t m₁ _ oI h t₁ hi (Nat.le_trans hlo ht) hJ F N
  · intro m₁ h tk hlo hJ F N
    exact done m₁ h tk hlo hJ F N
theorem slice_store {x : Str} {t : Tok} {l u : Option (Int × Tok)} {lo : Nat} {y : Str} {ob : Obj} {m : Str → Option Value} {news : List (Addr × Obj)} {Q : Unit → Shared → Prop}
    (F : Fr h₀ env.locals s.heap m) (N : News h₀ env.locals s.heap news) (hz : x.length ≤ sizeLine) (h1 : lo ≤ t) (h2 : lo ≤ s.toks) (hy : env.kindOf y = some .local)
    (hp : (env.scope.kind == .class || (env.scope.kind == .module && env.locals != env.globals)) = false)
    (hq : ∀ t' h' k, lo ≤ t' → Fr h₀ env.locals h' (fun z => if z = y then some (.str (Txt.slice x (l.map (·.1)) (u.map (·.1))) t') else m z) → News h₀ env.locals h' news → Q () { s with heap := h', toks := k }) :
    (sliceMade x t l u none).post (fun v s₁ => wpAny (model prog w) A (storeName env y v) Q E s₁) { s with heap := s.heap.push ob } := by
  refine slice_tk hz h1 h2 fun t' k ht => ?_
  have F1 := F.push ob
  refine wpAny_storeName_local hy F1.ns (fun h₃ hn₃ hs₃ => ?_) hp
  refine hq t' h₃ _ ht (F1.set hn₃ hs₃) fun p hp => ?_
  have z := N p hp
  exact ⟨(hs₃.2 _ z.2.1).trans (Heap.get?_push_of_some _ z.1), z.2⟩
theorem wpAny_Assign_eval {x : Str} {pos' : Pos} {value : Expr} {pos : Pos} {Q : Flow → Shared → Prop}
    (h : wpAny (model prog w) A (eval value env) (fun v s₁ => wpAny (model prog w) A (storeName env x v) (fun _ => Q .next) E s₁) E s)
    (hs : swapsWith value (some (.Name x pos')) pos.line env = pure false) :
    wpAny (model prog w) A (exec (.Assign [.Name x pos'] value pos) env) Q E s := by
  rw [exec_Assign_Name env x pos' value pos hs]
  refine wpAny_bind (wpAny_standAt (wpAny_bind (wpAny_mono h (fun v s₁ h₁ => ?_) fun _ _ x => x)))
  refine wpAny_bind (wpAny_standAt (wpAny_bind (wpAny_bindName (wpAny_mono h₁ (fun _ s₂ h₂ => wpAny_pure h₂) fun _ _ x => x))))
end
end Mine

/-! Img -/
namespace Mine
open PySem PySem.W PyProof.Rows PySem.Calls PySem.Spec
set_option maxRecDepth 100000
set_option maxHeartbeats 8000000
set_option pp.maxSteps 20000
set_option pp.deepTerms false
set_option pp.deepTerms.threshold 6
example : True := by (w_top off); trivial
local macro_rules | `(tactic| walk_at "call ref") => `(tactic| (refine wpAny_halt ?_))
theorem isList_of {h₀ h : Heap} {L r : Addr} {news : List (Addr × Obj)} {its : Array Value} {n : Nat} (N : News h₀ L h news) (hm : (r, listOf its n) ∈ news) : h.IsList r its := ⟨_, (N _ hm).1, rfl, _, rfl⟩
local macro_rules | `(tactic| walk_at "call builtin:str.join") => `(tactic| (refine wpAny_halt ?_))
local macro_rules | `(tactic| walk_at "eval ListComp") => `(tactic| (refine listComp_first (wpAny_stop ?_)))
theorem byteArr_get {us : List Nat} {i : Nat} {c : UInt8} (h : (byteArr (us.map Int.ofNat))[i]? = some c) (hs : ∀ d ∈ us, d < 128) : ∃ d, us[i]? = some d ∧ c.toNat = d := by
  unfold byteArr at h
  rw [List.getElem?_toArray, List.getElem?_map, List.getElem?_map] at h
  cases e : us[i]? with
  | none => rw [e] at h; cases h
  | some d =>
    rw [e] at h
    have hd := hs d (List.mem_of_getElem? e)
    refine ⟨d, rfl, ?_⟩
    have h' : some ((Int.ofNat d).toNat.toUInt8) = some c := h
    cases h'
    show (d.toUInt8).toNat = d
    rw [Nat.toUInt8, UInt8.toNat_ofNat']
    omega
theorem sum_sg : ∀ us : List Nat, ((us.map sg).map fun x => x.length).sum = us.length
  | [] => rfl
  | u :: us => by rw [List.map_cons, List.map_cons, List.sum_cons, sum_sg us, List.length_cons]; show 1 + us.length = _; omega
theorem join_sg (us : List Nat) : Txt.join (Str.ofString "") (us.map sg) = ⟨us.toArray⟩ := by
  apply str_ext
  rw [join_flat, List.flatMap_map]
  show us.flatMap (fun d => [d]) = us.toArray.toList
  simp
def mate (pp : List Nat) (c : Nat) : Nat := four.getD (pp.getD (four.idxOf c) 0) 0
theorem flat_chunk {f : Nat → List Nat} : ∀ {l : List Nat} {i c : Nat}, (∀ d ∈ l, (f d).length = 5) → l[i]? = some c → ((l.flatMap f).drop (5 * i)).take 5 = f c
  | [], _, _, _, h => by cases h
  | d :: l, 0, c, h5, h => by
    cases h
    rw [List.flatMap_cons, Nat.mul_zero, List.drop_zero, List.take_append_of_le_length (by rw [h5 d (List.mem_cons_self ..)]; exact Nat.le_refl _), List.take_of_length_le (by rw [h5 d (List.mem_cons_self ..)]; exact Nat.le_refl _)]
  | d :: l, i + 1, c, h5, h => by
    have hd := h5 d (List.mem_cons_self ..)
    rw [List.flatMap_cons, show 5 * (i + 1) = (f d).length + 5 * i by rw [hd]; omega, List.drop_append, List.drop_of_length_le (Nat.le_add_right _ _), List.nil_append, Nat.add_sub_cancel_left]
    exact flat_chunk (fun e he => h5 e (List.mem_cons_of_mem _ he)) h
theorem slice_chunk {b : Nat} {l : List Nat} {i c : Nat} (h4 : ∀ d ∈ l, d ∈ four) (h : l[i]? = some c) :
    Txt.slice ⟨(l.flatMap (refL b)).toArray⟩ (some (0 + (i : Int) * ((5 : Nat) : Int))) (some (0 + (i : Int) * ((5 : Nat) : Int) + 5)) = refOf b c := by
  have h5 : ∀ d ∈ l, (refL b d).length = 5 := fun d hd => refL_len (h4 d hd)
  have hi : i < l.length := by
    rcases Nat.lt_or_ge i l.length with q | q
    · exact q
    · rw [List.getElem?_eq_none q] at h; cases h
  have hL := flat_len5 h5
  have z := eq_of_beq (slice_closes (x := ⟨(l.flatMap (refL b)).toArray⟩) (i := 0 + (i : Int) * ((5 : Nat) : Int)) (j := 0 + (i : Int) * ((5 : Nat) : Int) + 5) ⟨by omega, by omega, by
    show _ ≤ (((l.flatMap (refL b)).toArray.toList.length : Nat) : Int)
    rw [List.toList_toArray, hL]; omega⟩)
  rw [z]
  apply str_ext
  show (((l.flatMap (refL b)).toArray.toList.drop _).take _).toArray.toList = _
  rw [List.toList_toArray, List.toList_toArray, show (0 + (i : Int) * ((5 : Nat) : Int)).toNat = 5 * i by omega, show (0 + (i : Int) * ((5 : Nat) : Int) + 5 - (0 + (i : Int) * ((5 : Nat) : Int))).toNat = 5 by omega, flat_chunk h5 h]
  rfl
theorem refs_first (b : Nat) {c : Nat} (hc : c ∈ four) : (refs b)[four.idxOf c]? = some (refOf b c) ∧ (∀ i d, i < four.idxOf c → (refs b)[i]? = some d → d ≠ refOf b c) ∧ ((refs b).any fun x => x == refOf b c) = true := by
  obtain ⟨hk, _, _⟩ := four_idx c hc
  obtain ⟨_, _, hr, _, _⟩ := refVals_get b 0 hk
  refine ⟨hr, fun i d hi hd q => ?_, ?_⟩
  · have hne : ∀ k < 4, ∀ i < k, (refs b)[i]? ≠ (refs b)[k]? := by
      unfold refs
      by_cases hb : b = 0
      · rw [if_pos hb]; decide
      · rw [if_neg hb]; decide
    refine hne _ hk i hi ?_
    rw [hd, hr, q]; rfl
  · rw [List.any_eq_true]
    exact ⟨_, List.mem_of_getElem? hr, beq_self_eq_true _⟩
theorem ints_at {vs : List Value} {ns : List Nat} {k : Nat} (h : IntsAre vs (ns.map Int.ofNat)) (hk : k < ns.length) : ∃ tt, vs[k]? = some (.int ((ns.getD k 0 : Nat) : Int) tt) := by
  have hl : vs.length = ns.length := by rw [h.length, List.length_map]
  have e : vs[k]? = some vs[k] := List.getElem?_eq_getElem (by rw [hl]; exact hk)
  obtain ⟨n, t, hn, hm⟩ := h.at k _ e
  rw [List.getElem?_map, List.getElem?_eq_getElem hk] at hm
  cases hm
  refine ⟨t, ?_⟩
  rw [e, hn, List.getD_eq_getElem?_getD, List.getElem?_eq_getElem hk]
  rfl
theorem item_four {p : Nat} (h : p < 4) : Txt.item (Str.ofString "&\r\n\t") ((p : Nat) : Int) = sg (four.getD p 0) := by
  have h : p = 0 ∨ p = 1 ∨ p = 2 ∨ p = 3 := by omega
  rcases h with rfl | rfl | rfl | rfl <;> decide +kernel
theorem snoc_sg (a : List Nat) (d : Nat) : (⟨a.toArray⟩ : Str) ++ sg d = ⟨(a ++ [d]).toArray⟩ := by
  apply str_ext
  rw [Str.cps_append, Array.toList_append]
  simp [sg]
theorem four_small : ∀ d ∈ four, d < 128 := by decide
theorem img_spec {prog : Program} (w : World) {mean : ExcName → Option Value} {mg mb : Str → Option Value} (dp un : Nat) (gd : Option (List Code)) (cn : Str) (cs : Scope) (a : Addr) (ccd : Value) (cl : List (Str × Addr)) (outer : List Env) (A₀ : Around) (base h₀ : Heap) (L : Addr) (m : Str → Option Value)
    (news : List (Addr × Obj)) (s : Shared) (l : List Nat) (tw : Tok) (b : Nat) (tb : Tok) (pl : Addr) (items : Array Value) (Q E : Value → Shared → Prop)
    (B : Below A₀ base outer h₀) (F : Fr h₀ L s.heap m) (X : (hd.heap_39 w.params).In h₀) (N : News h₀ L s.heap news) (T : Top hd.view_39 (looseW hd.view_39 []) mean mg mb h₀) (hk : cs.kind = .function)
    (hdp : dp + 2 < recursionLimit) (hu : un + 16 < cLine) (hb : b = 0 ∨ b = 1) (hl : ∀ d ∈ l, d ∈ four) (hl0 : 0 < l.length) (hl64 : l.length ≤ 64) (pp : List Nat) (hp : s.heap.IsList pl items) (hpi : IntsAre items.toList (pp.map Int.ofNat)) (hpn : pp.length = 4) (hp4 : ∀ x ∈ pp, x < 4) (htk : 0 < s.toks)
    (ret : ∀ t h' tk', Fr h₀ L h' m → News h₀ L h' news → Q (.str ⟨(l.reverse.map (mate pp)).toArray⟩ t) { s with heap := h', toks := tk' }) :
    wpC (model prog w) (ktrTop dp un gd cn cs L a ccd cl outer) (call (.ref 68) [.str ⟨l.toArray⟩ tw, .int b tb, .ref pl]) Q E s := by
  refine wpC_call ?_
  (refine' enterC_cells ?k1 ?k2 ?k3 ?k4 ?k5 ?kA ?kF ?kK ?k6 ?k7 ?k8 ?k9 ?kB ?kD ?_ ?c2 ?c3 ?c4; (case kA => exact rfl); (case kF => exact rfl); (case kK => assumption); (case k1 => k_asm); (case k2 => k_asm); (case k3 => k_asm); (case k4 => k_asm); (case k5 => k_asm); (case k6 => k_is); (case k7 => k_is); (case k8 => ktr_room); (case k9 => exact BindsTo.of_eq rfl); (case kB => exact rfl); (case kD => decide +kernel); (case c2 => exact rfl); (case c3 => exact rfl); (case c4 => exact rfl); k_whole; intro L' h' tk' cells' htk' F' N' Y' B' X' T'; k_cells Y'; (try dsimp only))
  have eb : ((b : Int) ≠ 0 → b = 1) ∧ ((b : Int) = 0 → b = 0) := ⟨by omega, by omega⟩
  refine wpC_execs_any (wpAny_mono (Q := fun f s' => f = .next ∧ ∃ h' tk r oc t0 m1, s' = { s with heap := h', toks := tk } ∧ Fr s.heap L' h' m1 ∧ News s.heap L' h' [(r, listOf (refVals b t0) 0), (L' + 1, oc)] ∧ oc.data = .cell (some (.ref r)) ∧ 0 < t0 ∧ t0 + 4 ≤ tk ∧ L' + 1 < r ∧
    m1 "word" = some (.str ⟨l.toArray⟩ tw) ∧ m1 "which" = some (.int b tb) ∧ m1 "partners" = some (.ref pl)) (wpAny_stop ?_) ?_ fun _ _ x => x)
  · k_steps
    · rename ((b : Int) ≠ 0) => hb0
      obtain rfl := eb.1 hb0
      exact ⟨trivial, _, _, _, _, _, _, rfl, by assumption, by assumption, by assumption, Nat.lt_of_lt_of_le htk htk', Nat.le_refl _, by assumption, rfl, rfl, rfl⟩
    · rename ((b : Int) = 0) => hb0
      obtain rfl := eb.2 hb0
      exact ⟨trivial, _, _, _, _, _, _, rfl, by assumption, by assumption, by assumption, Nat.lt_of_lt_of_le htk htk', Nat.le_refl _, by assumption, rfl, rfl, rfl⟩
  rintro _ _ ⟨rfl, h1, tk1, r, oc, t0, m1, rfl, F1, N1, d1, ht0, htk1, hr, mw, mb1, mp⟩
  dsimp only
  replace F1 := frKnown F1 [("word", .str ⟨l.toArray⟩ tw), ("which", .int b tb), ("partners", .ref pl)] (by intro p hp; simp only [List.mem_cons, List.not_mem_nil, or_false] at hp; rcases hp with rfl | rfl | rfl <;> assumption)
  clear mw mb1 mp
  refine wpC_execs_any (wpAny_mono (Q := fun f s' => f = .next ∧ ∃ h' tk tbh m2, s' = { s with heap := h', toks := tk } ∧ Fr s.heap L' h' m2 ∧ News s.heap L' h' [(r, listOf (refVals b t0) 0), (L' + 1, oc)] ∧ t0 + 4 ≤ tk ∧
    m2 "word" = some (.str ⟨l.toArray⟩ tw) ∧ m2 "which" = some (.int b tb) ∧ m2 "partners" = some (.ref pl) ∧ m2 "behind" = some (.str (behOf b) tbh)) (wpAny_tk (wpAny_stop ?_)) ?_ fun _ _ x => x)
  · k_steps
    · rename ((b : Int) ≠ 0) => hb0
      obtain rfl := eb.1 hb0
      exact fun htk2 => ⟨rfl, _, _, _, _, rfl, by assumption, by assumption, Nat.le_trans htk1 htk2, rfl, rfl, rfl, rfl⟩
    · rename ((b : Int) = 0) => hb0
      obtain rfl := eb.2 hb0
      exact fun htk2 => ⟨rfl, _, _, _, _, rfl, by assumption, by assumption, Nat.le_trans htk1 htk2, rfl, rfl, rfl, rfl⟩
  rintro _ _ ⟨rfl, h2, tk2, tbh, m2, rfl, F2, N2, htk2, mw, mb1, mp, mh⟩
  clear F1 N1
  dsimp only
  replace F2 := frKnown F2 [("word", .str ⟨l.toArray⟩ tw), ("which", .int b tb), ("partners", .ref pl), ("behind", .str (behOf b) tbh)] (by intro p hp; simp only [List.mem_cons, List.not_mem_nil, or_false] at hp; rcases hp with rfl | rfl | rfl | rfl <;> assumption)
  clear mw mb1 mp mh
  refine wpC_execs_any (wpAny_mono (Q := fun f s' => f = .next ∧ ∃ h' tk tpg m3, s' = { s with heap := h', toks := tk } ∧ Fr s.heap L' h' m3 ∧ News s.heap L' h' [(r, listOf (refVals b t0) 0), (L' + 1, oc)] ∧ t0 + 4 ≤ tk ∧
    m3 "word" = some (.str ⟨l.toArray⟩ tw) ∧ m3 "which" = some (.int b tb) ∧ m3 "partners" = some (.ref pl) ∧ m3 "behind" = some (.str (behOf b) tbh) ∧ m3 "page" = some (.str ⟨(pageOf b l).toArray⟩ tpg)) (wpAny_tk (wpAny_stop ?_)) ?_ fun _ _ x => x)
  have eap : (⟨l.toArray⟩ : Str) ++ Str.ofString "<>\"" = ⟨(l ++ [60, 62, 34]).toArray⟩ := by
    show (⟨l.toArray ++ #[60, 62, 34]⟩ : Str) = _
    simp
  · k_steps
    · rename ((b : Int) ≠ 0) => hb0
      obtain rfl := eb.1 hb0
      rw [eap]
      refine' escC_spec w _ _ _ _ _ _ _ _ _ _ _ _ _ _ _ _ _ _ _ _ B' F2 X' N2 T' rfl (by ktr_room) (by ktr_units) hl (by omega) ?_
      intro t3 h3 tk3 F3 N3
      k_steps
      exact fun htk3 => ⟨by trivial, _, _, _, _, rfl, by assumption, by assumption, Nat.le_trans htk2 htk3, rfl, rfl, rfl, rfl, rfl⟩
    · rename ((b : Int) = 0) => hb0
      obtain rfl := eb.2 hb0
      rw [eap]
      refine' esc_spec w _ _ _ _ _ _ _ _ _ _ _ _ _ _ _ _ _ _ _ _ B' F2 X' N2 T' rfl (by ktr_room) (by ktr_units) hl (by omega) ?_
      intro t3 h3 tk3 F3 N3
      k_steps
      exact fun htk3 => ⟨by trivial, _, _, _, _, rfl, by assumption, by assumption, Nat.le_trans htk2 htk3, rfl, rfl, rfl, rfl, rfl⟩
  rintro _ _ ⟨rfl, h3, tk3, tpg, m3, rfl, F3, N3, htk3, mw, mb1, mp, mh, mg1⟩
  clear F2 N2
  dsimp only
  replace F3 := frKnown F3 [("word", .str ⟨l.toArray⟩ tw), ("which", .int b tb), ("partners", .ref pl), ("behind", .str (behOf b) tbh), ("page", .str ⟨(pageOf b l).toArray⟩ tpg)] (by intro p hp; simp only [List.mem_cons, List.not_mem_nil, or_false] at hp; rcases hp with rfl | rfl | rfl | rfl | rfl <;> assumption)
  clear mw mb1 mp mh mg1
  have hlenW : (⟨l.toArray⟩ : Str).length = l.length := by show l.toArray.size = _; exact List.size_toArray
  refine wpC_execs_any (wpAny_mono (Q := fun f s' => f = .next ∧ ∃ h' tk m4, s' = { s with heap := h', toks := tk } ∧ Fr s.heap L' h' m4 ∧ News s.heap L' h' [(r, listOf (refVals b t0) 0), (L' + 1, oc)] ∧ t0 + 4 ≤ tk ∧
    m4 "word" = some (.str ⟨l.toArray⟩ tw) ∧ m4 "partners" = some (.ref pl) ∧ m4 "page" = some (.str ⟨(pageOf b l).toArray⟩ tpg)) (wpAny_tk (wpAny_stop ?_)) ?_ fun _ _ x => x)
  rotate_left
  · rintro _ _ ⟨rfl, h4, tk4, m4, rfl, F4, N4, htk4, mw, mp, mg1⟩
    clear F3 N3
    dsimp only
    replace F4 := frKnown F4 [("word", .str ⟨l.toArray⟩ tw), ("partners", .ref pl), ("page", .str ⟨(pageOf b l).toArray⟩ tpg)] (by intro p hp; simp only [List.mem_cons, List.not_mem_nil, or_false] at hp; rcases hp with rfl | rfl | rfl <;> assumption)
    clear mw mp mg1
    refine wpC_execs_any (wpAny_mono (Q := fun f s' => f = .next ∧ ∃ h' tk m5 tow, s' = { s with heap := h', toks := tk } ∧ Fr s.heap L' h' m5 ∧ News s.heap L' h' [(r, listOf (refVals b t0) 0), (L' + 1, oc)] ∧ t0 + 4 ≤ tk ∧
      m5 "word" = some (.str ⟨l.toArray⟩ tw) ∧ m5 "partners" = some (.ref pl) ∧ m5 "page" = some (.str ⟨(pageOf b l).toArray⟩ tpg) ∧ m5 "own" = some (.int ((5 * l.length : Nat) : Int) tow)) (wpAny_tk (wpAny_stop ?_)) ?_ fun _ _ x => x)
    · k_steps
      exact fun q => ⟨trivial, _, _, _, _, rfl, by assumption, by assumption, Nat.le_trans htk4 q, rfl, rfl, rfl, by
        show some (Value.int (5 * ((l.toArray.size : Nat) : Int)) _) = _
        rw [List.size_toArray]; push_cast; rfl⟩
    rintro _ _ ⟨rfl, h5, tk5, m5, tow, rfl, F5, N5, htk5, mw, mp, mg1, mo⟩
    clear F4 N4
    dsimp only
    replace F5 := frKnown F5 [("word", .str ⟨l.toArray⟩ tw), ("partners", .ref pl), ("page", .str ⟨(pageOf b l).toArray⟩ tpg), ("own", .int ((5 * l.length : Nat) : Int) tow)] (by intro p hp; simp only [List.mem_cons, List.not_mem_nil, or_false] at hp; rcases hp with rfl | rfl | rfl | rfl <;> assumption)
    clear mw mp mg1 mo
    refine wpC_execs_cons (wpC_tk (wpC_Assign_Name (wpC_Call_def (K := hd.heap_39 w.params) (a := 63) rfl ?_ rfl rfl) rfl))
    walk1
    refine ⟨rfl, ?_⟩
    refine wpAny_stop ?_
    have hpl : (pageOf b l).length ≤ 1000 := by
      have h1 := flat_len5 (f := refL b) (l := l) fun d hd => refL_len (hl d hd)
      have h2 : (behOf b).cps.toList.length ≤ 20 := by unfold behOf; split <;> decide +kernel
      rw [page_split hl, List.length_append]; omega
    have hps : (⟨(pageOf b l).toArray⟩ : Str).length ≤ sizeLine := by
      show (pageOf b l).toArray.size ≤ 2 ^ 24
      rw [List.size_toArray]; omega
    have hcut : Txt.slice (⟨(pageOf b l).toArray⟩ : Str) none (some ((5 * l.length : Nat) : Int)) = ⟨(l.flatMap (refL b)).toArray⟩ := by
      have h1 := flat_len5 (f := refL b) (l := l) fun d hd => refL_len (hl d hd)
      have h0 := eq_of_beq (slice_closes_to (x := ⟨(pageOf b l).toArray⟩) (j := ((5 * l.length : Nat) : Int)) ⟨by omega, by
        show ((5 * l.length : Nat) : Int) ≤ (((pageOf b l).toArray.toList.length : Nat) : Int)
        rw [List.toList_toArray, page_split hl, List.length_append]; omega⟩)
      rw [h0]
      apply str_ext
      show ((((pageOf b l).toArray.toList.drop _).take _).toArray.toList) = (l.flatMap (refL b)).toArray.toList
      rw [List.toList_toArray, List.toList_toArray, List.toList_toArray, page_split hl]
      show (List.take (((5 * l.length : Nat) : Int) - 0).toNat (l.flatMap (refL b) ++ (behOf b).cps.toList)) = _
      rw [Int.sub_zero, Int.toNat_natCast, ← h1, List.take_left]
    k_steps
    rename_i h6 t6 k6 F6 N6 _
    rw [hcut]
    generalize hpg : l.flatMap (refL b) = pg at *
    have hpgl : pg.length = 5 * l.length := hpg ▸ flat_len5 (f := refL b) (l := l) fun d hd => refL_len (hl d hd)
    have hpa : ∀ d ∈ pg, d < 128 := fun d hd => by
      rw [← hpg] at hd
      obtain ⟨c, hc, hd⟩ := List.mem_flatMap.mp hd
      exact refL_small (hl c hc) d hd
    refine comp_str pg k6 (fun i ys => IntsAre ys ((pg.take i).map Int.ofNat)) rfl hpa (by with_unfolding_all rfl) (by decide) (by rfl) (by decide) (by rfl) (by intro _; with_unfolding_all rfl) F6 N6 (by show pg.length ≤ 2 ^ 24; omega) (Nat.le_refl _) .nil ?turn2 ?fin2
    case turn2 =>
      intro i c ys I oI C oC D m₂ h7 t₇ tk7 hc hlo ht hJ hoC hm F7 N7 off ne
      simp only [LCg.Off3, and_true] at off
      refine wpAny_stop ?_
      k_steps
      refine ⟨_, _, rfl, by assumption, by assumption, ?_⟩
      rw [List.take_succ, hc, List.map_append]
      exact hJ.append (.cons _ _ .nil)
    case fin2 =>
      intro D h7 tk7 ys hJ hlo7 hyl F7 N7 off
      simp only [LCg.Off1, and_true] at off
      rw [List.take_length] at hJ
      have hin : KBa.In (pg.map Int.ofNat) := fun n hn => by
        obtain ⟨d, hd, rfl⟩ := List.mem_map.mp hn
        have := hpa d hd
        exact ⟨Int.natCast_nonneg d, by show ((d : Nat) : Int) < 256; omega⟩
      k_steps
      rename_i h8 t8 k8 F8 N8' _ _
      have N8 : News s.heap L' h8 [(r, listOf (refVals b t0) 0), (L' + 1, oc)] := fun p hp => N8' p (List.mem_cons_of_mem _ hp)
      clear F7 N7 N8'
      refine ⟨fun a o q => F8.keep a o (X' a o q), ?_⟩
      refine wpC_tk (swap_spec w _ _ _ _ _ _ _ _ _ _ _ _ _ _ _ _ (pg.map Int.ofNat) _ (5 * l.length) 1 _ _ _ B' F8 X' N8 T' rfl (by ktr_room) (by ktr_units) (by omega) hin (by rw [List.length_map]; omega) (by rw [List.length_map]; omega) (by omega) ?_)
      intro t9 h9 tk9 F9 N9
      k_steps
      rename Fr s.heap _ _ _ => F10
      rename News s.heap _ _ _ => N10
      rename tk5 ≤ _ => hq5
      dsimp only at hq5 F10 N10 ⊢
      have F10' := frKnown F10 [("partners", .ref pl), ("octets", .bytes (byteArr (outerL (pg.map Int.ofNat) (5 * l.length) 1)) t9)] (by intro p hp; simp only [List.mem_cons, List.not_mem_nil, or_false] at hp; rcases hp with rfl | rfl <;> rfl)
      clear F10
      refine wpC_execs_cons (wpC_Assign_Name (wpC_MethodCall ?_) rfl)
      k_steps
      refine wpC_callWith_builtin1 (wpC_listComp_first (wpC_Call_def (K := hd.heap_39 w.params) (a := 63) rfl ?_ rfl rfl))
      walk1
      refine ⟨rfl, wpAny_stop ?_⟩
      k_steps
      rename Fr s.heap _ _ _ => F11
      rename News s.heap _ _ _ => N11
      have epg : pg.map Int.ofNat = l.flatMap fun d => (refL b d).map Int.ofNat := by rw [← hpg, List.map_flatMap]
      have h5 : ∀ d ∈ l, ((refL b d).map Int.ofNat).length = 5 := fun d hd => by rw [List.length_map]; exact refL_len (hl d hd)
      have esw : outerL (outerL (pg.map Int.ofNat) (5 * l.length) 1) 5 l.length = (l.reverse.flatMap (refL b)).map Int.ofNat := by
        rw [epg, swap_both _ l h5 hl0, List.map_flatMap]
      have hin1 : KBa.In (outerL (pg.map Int.ofNat) (5 * l.length) 1) := by
        have e1 := swap_one (pg.map Int.ofNat) (by rw [List.length_map]; omega)
        rw [List.length_map, hpgl] at e1
        rw [e1]
        exact fun n hn => hin n (List.mem_reverse.mp hn)
      refine ⟨fun a o q => F11.keep a o (X' a o q), ?_⟩
      refine wpC_tk (swap_spec w _ _ _ _ _ _ _ _ _ _ _ _ _ _ _ _ (outerL (pg.map Int.ofNat) (5 * l.length) 1) _ 5 l.length _ _ _ B' F11 X' N11 T' rfl (by ktr_room) (by ktr_units) (by omega) hin1 (by rw [outerL_length, List.length_map, hpgl, Nat.mul_comm]) (by rw [outerL_length, List.length_map]; omega) (by omega) ?_)
      rw [esw]
      intro t12 h12 tk12 F12 N12 hq12
      generalize hup : l.reverse.flatMap (refL b) = up at *
      have hupl : up.length = 5 * l.length := by
        rw [← hup, flat_len5 (f := refL b) (l := l.reverse) fun d hd => refL_len (hl d (List.mem_reverse.mp hd)), List.length_reverse]
      have hupa : ∀ d ∈ up, d < 128 := fun d hd => by
        rw [← hup] at hd
        obtain ⟨c, hc, hd⟩ := List.mem_flatMap.mp hd
        exact refL_small (hl c (List.mem_reverse.mp hc)) d hd
      dsimp only at hq12 F12 N12 ⊢
      have hlo12 : t0 + 4 ≤ tk12 := by omega
      refine comp_bytes (byteArr (up.map Int.ofNat)) (t0 + 4) (fun i ys => StrsAre ys ((up.take i).map sg)) rfl (by with_unfolding_all rfl) (by decide) (by rfl) (by decide) (by rfl) (by intro _; with_unfolding_all rfl) F12 N12 (by rw [byteArr_size, List.length_map]; show up.length ≤ 2 ^ 24; omega) hlo12 .nil ?turn3 ?fin3
      case turn3 =>
        intro i c u ys I oI C oC D m₂ h13 tk13 hc hlo hJ hoC hm F13 N13 off ne
        simp only [LCg.Off3, and_true] at off
        obtain ⟨d, hd, hcd⟩ := byteArr_get hc hupa
        have hd8 := hupa d (List.mem_of_getElem? hd)
        rw [hcd] at hm
        refine wpAny_stop ?_
        k_steps
        refine ⟨_, _, rfl, by assumption, by assumption, ?_⟩
        rw [List.take_succ, hd, List.map_append]
        exact hJ.append' (.cons _ _ .nil)
      case fin3 =>
        intro D h13 tk13 ys hJ hlo13 hyl F13 N13 off
        simp only [LCg.Off1, and_true] at off
        rw [byteArr_size, List.length_map, List.take_length] at hJ
        have e0 : (Str.ofString "").length = 0 := by decide
        show wpC _ _ (call (.builtin "str.join") [.str _ _, .ref D]) _ _ _
        refine wpC_of (join_fresh (isList_of (its := ys.toArray) (n := ys.length) N13 (by simp)) hJ (by rw [sum_sg, e0]; omega) (by rw [List.length_map]; omega) ?_)
        rw [join_sg]
        have N13' : News s.heap L' h13 [(r, listOf (refVals b t0) 0), (L' + 1, oc)] := fun p hp => N13 p (List.mem_cons_of_mem _ hp)
        clear N13
        k_steps
        rename Fr s.heap _ _ _ => F14
        rename News s.heap _ _ _ => N14
        dsimp only at F14 N14 ⊢
        replace F14 := frKnown F14 [("partners", .ref pl), ("upright", .str ⟨up.toArray⟩ tk13)] (by intro p hp; simp only [List.mem_cons, List.not_mem_nil, or_false] at hp; rcases hp with rfl | rfl <;> rfl)
        refine wpC_execs_any (wpAny_stop ?_)
        k_steps
        rename Fr s.heap _ _ _ => F15
        rename News s.heap _ _ _ => N15
        dsimp only at F15 N15 ⊢
        have hupS : (⟨up.toArray⟩ : Str).length = up.length := by show up.toArray.size = _; exact List.size_toArray
        refine wpC_execs_any (wpAny_For (wpAny_tk (wpAny_stop ?_)))
        k_steps
        unfold Stop
        intro hq16
        rename Fr s.heap _ _ _ => F16
        rename News s.heap _ _ _ => N16
        rename IsRange _ _ _ _ _ _ _ _ => R16
        show wpAny _ _ (pyIter _) _ _ _
        have hupl' : up.length = l.length * 5 := by omega
        rw [hupS, hupl'] at R16
        refine for_rangeT (n := l.length) (lo := t0 + 4) (fun i m₁ => m₁ "partners" = some (.ref pl) ∧ m₁ "upright" = some (.str ⟨up.toArray⟩ tk13) ∧ ∃ ti, m₁ "image" = some (.str ⟨((l.reverse.take i).map (mate pp)).toArray⟩ ti)) rfl rfl rfl R16
          (small_mul (by omega) (by omega) (by omega)) (rangeSize_mul (by omega)) F16 N16 ⟨rfl, rfl, _, rfl⟩ (by refine Nat.le_trans hlo13 (Nat.le_trans ?_ hq16); repeat (first | exact Nat.le_refl _ | refine Nat.le_trans ?_ (Nat.le_add_right _ _))) ?turn4 ?done4
        case turn4 =>
          rintro i ti m₁ I oI h17 tk17 hi hlo17 ⟨mp, mu, tim, mi⟩ F17 N17
          replace F17 := frKnown F17 [("place", .int (0 + (i : Int) * ((5 : Nat) : Int)) ti), ("partners", .ref pl), ("upright", .str ⟨up.toArray⟩ tk13), ("image", .str ⟨((l.reverse.take i).map (mate pp)).toArray⟩ tim)] (by intro p hp; simp only [List.mem_cons, List.not_mem_nil, or_false] at hp; rcases hp with rfl | rfl | rfl | rfl <;> first | rfl | exact mp | exact mu | exact mi)
          clear F16 N16 R16
          refine wpAny_stop ?_
          refine wpAny_execs_cons (wpAny_Assign_eval (wpAny_Subscript_str_slice (wpAny_stop ?_)) rfl)
          k_steps
          show wpAny _ _ _ _ _ _
          rw [evalPart_some]
          refine wpAny_stop ?_
          k_steps
          show wpAny _ _ _ _ _ _
          rw [evalPart_some]
          refine wpAny_tk (wpAny_stop ?_)
          k_steps
          show (_ ≤ _ → _)
          intro hq17
          refine ⟨⟨up.toArray⟩, tk13, some (_, _), some (_, _), rfl, rfl, rfl, ?_⟩
          refine slice_store (lo := t0 + 4) F17 N17 (by rw [hupS]; show up.length ≤ 2 ^ 24; omega) hlo13 (Nat.le_trans hlo17 hq17) rfl rfl fun t18 h18 tk18 ht18 F18 N18 => ?_
          dsimp only [Option.map] at F18
          obtain ⟨c, hc⟩ : ∃ c, l.reverse[i]? = some c := ⟨_, List.getElem?_eq_getElem (by rw [List.length_reverse]; exact hi)⟩
          have hl4 : ∀ d ∈ l.reverse, d ∈ four := fun d hd => hl d (List.mem_reverse.mp hd)
          have hcf : c ∈ four := hl4 c (List.mem_of_getElem? hc)
          have esl := slice_chunk (b := b) hl4 hc
          rw [hup] at esl
          rw [esl] at F18
          obtain ⟨hrx, hrf, hany⟩ := refs_first b hcf
          replace F18 := frKnown F18 [("reference", .str (refOf b c) t18), ("partners", .ref pl), ("upright", .str ⟨up.toArray⟩ tk13), ("image", .str ⟨((l.reverse.take i).map (mate pp)).toArray⟩ tim)] (by intro p hp; simp only [List.mem_cons, List.not_mem_nil, or_false] at hp; rcases hp with rfl | rfl | rfl | rfl <;> rfl)
          have hL18 : h18.IsList r (refVals b t0) := isList_of (n := 0) N18 (by simp)
          refine wpAny_execs_cons ?_
          k_steps
          refine' contains_spec w _ _ _ _ _ _ _ _ _ _ _ _ _ _ _ _ r (refVals b t0).toList (refs b) (refOf b c) t18 _ _ B' F18 X' N18 T' rfl ?kd ?ku ?kl (refVals_strs b t0) ?kr
          case kd => ktr_room
          case ku => ktr_units
          case kl => rw [Array.toArray_toList]; exact hL18
          intro h19 tk19 F19 N19
          rw [hany]
          k_steps
          have hL19 : h19.IsList r (refVals b t0) := isList_of (n := 0) N19 (by simp)
          have hi4 := (four_idx c hcf).1
          refine' idx_spec w _ _ _ _ _ _ _ _ _ _ _ _ _ _ _ _ _ (refs b) (four.idxOf c) (refOf b c) t18 _ _ B' F19 X' N19 T' rfl ?kd2 ?ku2 ?ks hrx hrf ?k0 ?kr2
          case kd2 => ktr_room
          case ku2 => ktr_units
          case ks =>
            refine src_list hL19 (by rw [refVals_size, refs_len]) fun j v hv => ?_
            obtain ⟨x, tt, rfl, hx, h1, h2⟩ := refVals_tok hv
            exact ⟨x, tt, rfl, hx, Nat.lt_of_lt_of_le ht0 h1, Nat.ne_of_lt (Nat.lt_of_lt_of_le h2 ht18)⟩
          case k0 => exact Nat.lt_of_lt_of_le (Nat.lt_of_lt_of_le ht0 (Nat.le_add_right _ _)) ht18
          intro t20 h20 tk20 F20 N20
          obtain ⟨tp, hpg⟩ := ints_at hpi (k := four.idxOf c) (by rw [hpn]; exact hi4)
          refine item_list (F20.lst hp) (by omega) (by omega) (x := .int ((pp.getD (four.idxOf c) 0 : Nat) : Int) tp) (by rw [Int.toNat_natCast, ← Array.getElem?_toList]; exact hpg) ?_
          have hlt4 : pp.getD (four.idxOf c) 0 < 4 := by
            rw [List.getD_eq_getElem?_getD, List.getElem?_eq_getElem (by rw [hpn]; exact hi4)]
            exact hp4 _ (List.getElem_mem _)
          k_steps
          rw [item_four hlt4]
          refine' add_spec w _ _ _ _ _ _ _ _ _ _ _ _ _ _ _ _ _ (sg (four.getD (pp.getD (four.idxOf c) 0) 0)) _ _ _ _ B' F20 X' N20 T' rfl ?kd3 ?ku3 ?kx3 ?ky3 ?kr3
          case kd3 => ktr_room
          case ku3 => ktr_units
          case kx3 =>
            show (((l.reverse.take i).map (mate pp)).toArray).size ≤ 100000
            rw [List.size_toArray, List.length_map, List.length_take, List.length_reverse]; omega
          case ky3 => show 1 ≤ 100000; omega
          intro t21 h21 tk21 F21 N21
          rw [snoc_sg]
          have eimg : (l.reverse.take i).map (mate pp) ++ [four.getD (pp.getD (four.idxOf c) 0) 0] = (l.reverse.take (i + 1)).map (mate pp) := by
            rw [List.take_succ, hc, List.map_append]; rfl
          rw [eimg]
          k_steps
          exact ⟨rfl, _, _, _, rfl, by assumption, by assumption, rfl, rfl, _, rfl⟩
        case done4 =>
          rintro m₁ h17 tk17 hlo17 ⟨mp, mu, tim, mi⟩ F17 N17
          replace F17 := frKnown F17 [("image", .str ⟨((l.reverse.take l.length).map (mate pp)).toArray⟩ tim)] (by intro p hp; simp only [List.mem_cons, List.not_mem_nil, or_false] at hp; rcases hp with rfl; exact mi)
          rw [List.take_of_length_le (by rw [List.length_reverse]; exact Nat.le_refl _)] at F17
          clear F16 N16 R16
          refine wpC_execs_any (wpAny_stop ?_)
          k_steps
          exact ⟨L', _, F17, fun FB NB => ret _ _ _ FB NB⟩
  k_steps
  refine comp_str l tk3 (fun i ys => StrsAre ys ((l.take i).map (refOf b))) rfl (fun d hd => four_small d (hl d hd)) (by with_unfolding_all rfl) (by decide) (by rfl) (by decide) (by rfl) (by intro _; with_unfolding_all rfl) F3 N3 (by show l.length ≤ 2 ^ 24; omega) (Nat.le_succ _) .nil ?turn ?fin
  case turn =>
    intro i c ys I oI C oC D m₂ h4 t₄ tk4 hc hlo ht hJ hoC hm F4 N4 off ne
    simp only [LCg.Off3, and_true] at off
    have hcf : c ∈ four := hl c (List.mem_of_getElem? hc)
    obtain ⟨hk4, hx, hfirst⟩ := four_idx c hcf
    k_steps
    refine idx_spec w _ _ _ _ _ _ _ _ _ _ _ _ _ _ _ _ _ (four.map sg) (four.idxOf c) (sg c) t₄ _ _ B' F4 X' N4 T' rfl (by ktr_room) (by ktr_units) (src_str (x := Str.ofString "&\r\n\t") (by decide +kernel) (Nat.lt_succ_of_le ht)) hx hfirst (Nat.lt_of_lt_of_le (by omega) hlo) ?_
    intro t5 h5 tk5 F5 N5
    obtain ⟨tt, hget, _, _, _⟩ := refVals_get b t0 hk4
    refine item_list (isList_of (r := r) (its := refVals b t0) (n := 0) N5 (by simp)) (by omega) (by omega) (x := .str (refOf b c) tt) (by rw [Int.toNat_natCast]; exact hget) ?_
    exact ⟨_, _, rfl, F5, N5, by
      rw [List.take_succ, hc, List.map_append]
      exact hJ.append' (.cons _ _ .nil)⟩
  case fin =>
    intro D h4 tk4 ys hJ hlo4 hyl F4 N4 off
    simp only [LCg.Off1, and_true] at off
    k_steps
    rw [List.take_length] at hJ
    refine join_madeW (l := l) (g := refOf b) 5 (isList_of (r := D) (its := ys.toArray) (n := ys.length) N4 (by simp)) (by simpa using hJ.carried) (fun c hc => Nat.le_of_eq (by have := refL_len (b := b) (hl c hc); simpa [refL, Str.length] using this)) (by omega) (by decide) ?_
    intro t6 tk6
    have hj1 : (Txt.join (Str.ofString "") (List.map (refOf b) l)).length ≤ 1000 := by
      show (Txt.join (Str.ofString "") (List.map (refOf b) l)).cps.size ≤ 1000
      rw [← Array.length_toList, join_flat, List.flatMap_map]
      have := flat_len5 (f := refL b) (l := l) fun d hd => refL_len (hl d hd)
      show (l.flatMap (refL b)).length ≤ 1000
      omega
    have hj2 : (behOf b).length ≤ 100 := by unfold behOf; split <;> decide +kernel
    rw [page_join hl]
    k_steps
    · rename_i hq
      simp at hq
    · exact fun htk9 => ⟨rfl, _, _, _, rfl, F4, (fun p hp => N4 p (List.mem_cons_of_mem _ hp)), Nat.le_trans htk3 (by assumption), rfl, rfl, by rw [page_join hl]; rfl⟩
end Mine

/-! LoopC -/
namespace Mine
open PySem PySem.W PyProof.Rows PySem.Calls PySem.Spec
set_option maxRecDepth 100000
set_option maxHeartbeats 400000
example : True := by (w_top off); trivial
/-! ## loops over clean stacks -/
theorem codeC_loop {M : Model} {A : Around} {c : Code} {R : Result → Shared → Prop} (hok : OkCode c) (hq : c.quiet = true) (I : Nat → Shared → Prop)
    (turn : ∀ n s, I n s → wpC M (A.under c) (M.den c)
      (fun fin s' => match fin with
        | .done f => R (.ok f) s'
        | .again c' => (c' = c ∧ ∃ m, m < n ∧ I m s') ∨ (c'.quiet = true ∧ codeC M A c' R s')) (fun e s' => R (.error e) s') s)
    (n : Nat) {s : Shared} (h : I n s) : codeC M A c R s := by
  induction n using Nat.strongRecOn generalizing s with
  | ind n ih =>
    refine codeC_of_tree hok (wpC_mono (turn n s h) (fun fin s' hf => ?_) fun _ _ h' => h')
    cases fin with
    | done f => exact hf
    | again c' =>
      rcases hf with ⟨rfl, m, hm, hI⟩ | hf
      · exact ⟨hq, ih m hm hI⟩
      · exact hf
section
variable {prog : Program} {w : World} {A : Around} {s : Shared} {env : Env}
theorem codeC_forLoop {R : Result → Shared → Prop} {target : Expr} {it : Value} {body : List Stmt} (I : Nat → Shared → Prop)
    (turn : ∀ n s, I n s → wpAny (model prog w) A (pyNext it) (fun r s₁ => match r with
      | none => R (.ok .next) s₁
      | some v => wpAny (model prog w) A (letOwnedTupleGo target it v) (fun _ s₁' =>
          wpAny (model prog w) A (assign target env v) (fun _ s₂ => wpC (model prog w) A (execs body env) (fun f s₃ => match f with
            | .next | .cont => ∃ m, m < n ∧ I m s₃
            | .brk => R (.ok .next) s₃
            | .ret v => R (.ok (.ret v)) s₃) (fun _ _ => False) s₂) (fun _ _ => False) s₁') (fun _ _ => False) s₁) (fun _ _ => False) s)
    (n : Nat) (h : I n s) : codeC (model prog w) A (.forLoop target it body [] env) R s := by
  refine codeC_loop (okCode_for _ _ _ _ _) rfl I (fun n s hI => ?_) n h
  show wpC _ A ((forTurn target it body [] env).onRaise (fun x => do noteFrame x env; theTreesLotGoes x)) _ _ s
  refine wpC_onRaise (wpC_mono (E := fun _ _ => False) ?_ (fun _ _ h => h) (fun _ _ h => h.elim))
  simp only [forTurn]
  refine wpC_bindA (wpAny_standAt (wpC_bindA (wpAny_onRaise (wpAny_mono (turn n s hI) (fun r s₁ h₁ => ?_) fun _ _ h' => h'.elim))))
  cases r with
  | none => exact wpC_pure (.inr ⟨rfl, codeC_of (codeAny_block (wpAny_execs_nil h₁))⟩)
  | some v =>
    refine wpC_bindA (wpAny_mono h₁ (fun _ s₁' h₁' => ?_) fun _ _ h' => h')
    refine wpC_bindA (wpAny_mono h₁' (fun _ s₂ h₂ => wpC_bind (wpC_mono h₂ (fun f s₃ h₃ => ?_) fun _ _ h' => h')) fun _ _ h' => h')
    cases f with
    | next => exact wpC_pure (.inl ⟨rfl, h₃⟩)
    | cont => exact wpC_pure (.inl ⟨rfl, h₃⟩)
    | brk => exact wpC_pure h₃
    | ret v => exact wpC_pure h₃
theorem wpC_For {target iter : Expr} {body : List Stmt} {pos : Pos} {Q : Flow → Shared → Prop}
    (h : wpAny (model prog w) A (eval iter env) (fun x s₁ => wpAny (model prog w) A (pyIter x) (fun it s₂ =>
      codeC (model prog w) A (.forLoop target it body [] env) (fun r s' => match r with | .ok f => Q f s' | .error _ => False) s₂) (fun _ _ => False) s₁) (fun _ _ => False) s)
    (hs : ∀ x, foldedSetIterable iter env x = pure x := by intro _; rfl) :
    wpC (model prog w) A (exec (.For target iter body [] pos) env) Q (fun _ _ => False) s := by
  rw [exec_For]
  refine wpC_bindA (wpAny_standAt (wpC_bindA (wpAny_mono h (fun x s₁ h₁ => wpC_bindA (wpAny_of_eq (hs x) (wpC_bindA (wpAny_standAt (wpC_bindA (wpAny_holding
    (wpAny_mono h₁ (fun it s₂ h₂ => ?_) fun _ _ h' => h'))))))) fun _ _ h' => h')))
  unfold runOwn
  refine wpC_onRaise (wpC_run (codeC_mono h₂ fun r s' hr => ?_))
  cases r with
  | ok f => exact hr
  | error e => exact hr.elim
/-- a for over a list that stays; the ledger may grow -/
theorem for_listC {R : Result → Shared → Prop} {x : Str} {px : Pos} {body : List Stmt} {ax : Addr} {items : Array Value} {lo : Nat} {h₀ : Heap} {m₀ : Str → Option Value} {news : List (Addr × Obj)} {E : Value → Shared → Prop}
    (J : Nat → (Str → Option Value) → List (Addr × Obj) → Prop)
    (hh : A.handled = none) (hx : env.kindOf x = some .local) (hp : (env.scope.kind == .class || (env.scope.kind == .module && env.locals != env.globals)) = false)
    (hL : h₀.IsList ax items) (F : Fr h₀ env.locals s.heap m₀) (N : News h₀ env.locals s.heap news) (hj : J 0 m₀ news) (hlo : lo ≤ s.toks)
    (turn : ∀ i v m₁ nx I oI h t₁, items[i]? = some v → lo ≤ t₁ → J i m₁ nx → (∀ p ∈ nx, p.1 ≠ I) → Fr h₀ env.locals h (fun y => if y = x then some v else m₁ y) → News h₀ env.locals h ((I, oI) :: nx) →
      wpC (model prog w) A (execs body env) (fun f s' => f = .next ∧ ∃ h' tk' m₂ nx', s' = { s with heap := h', toks := tk' } ∧ Fr h₀ env.locals h' m₂ ∧ News h₀ env.locals h' ((I, oI) :: nx') ∧ (∀ p ∈ nx', p.1 ≠ I) ∧ J (i + 1) m₂ nx') (fun _ _ => False) { s with heap := h, toks := t₁ })
    (done : ∀ m₁ nx h tk, lo ≤ tk → J items.size m₁ nx → Fr h₀ env.locals h m₁ → News h₀ env.locals h nx → R (.ok .next) { s with heap := h, toks := tk }) :
    wpAny (model prog w) A (pyIter (.ref ax)) (fun it s₂ => codeC (model prog w) A (.forLoop (.Name x px) it body [] env) R s₂) E s := by
  refine wpAny_pyIter_list (F.lst hL) ?_
  have hI₀ : h₀.get? s.heap.objs.size = none := next_is_new F
  have hLI : env.locals ≠ s.heap.objs.size := Nat.ne_of_lt F.ns.lt
  have offI : ∀ p ∈ news, p.1 ≠ s.heap.objs.size := fun p hp => Nat.ne_of_lt (Heap.lt_size (N p hp).1)
  have hit : (s.heap.push { cls := .type "list_iterator", data := .fields #[.ref ax, .int 0 0] }).IsListIter s.heap.objs.size ax 0 := ⟨_, Heap.get?_push_size _ rfl, rfl, rfl⟩
  have F1 := F.push { cls := .type "list_iterator", data := .fields #[.ref ax, .int 0 0] }
  have N1 : News h₀ env.locals (s.heap.push { cls := .type "list_iterator", data := .fields #[.ref ax, .int 0 0] }) news := fun p hp => ⟨Heap.get?_push_of_some _ (N p hp).1, (N p hp).2⟩
  generalize s.heap.push { cls := .type "list_iterator", data := .fields #[.ref ax, .int 0 0] } = H1 at *
  generalize s.heap.objs.size = I at *
  refine codeC_forLoop
    (fun k s' => ∃ h' tk m' nx i, s' = { s with heap := h', toks := tk } ∧ i ≤ items.size ∧ k = items.size + 1 - i ∧ lo ≤ tk ∧ h'.IsListIter I ax i ∧ Fr h₀ env.locals h' m' ∧ News h₀ env.locals h' nx ∧ (∀ p ∈ nx, p.1 ≠ I) ∧ J i m' nx) ?_ (items.size + 1)
    ⟨H1, s.toks, m₀, news, 0, rfl, Nat.zero_le _, rfl, hlo, hit, F1, N1, offI, hj⟩
  rintro k s' ⟨H, tk, m', nx, i, rfl, hi, rfl, hlk, hit', F', N', off', hJ⟩
  by_cases hlt : i < items.size
  · have hv : items[i]? = some items[i] := Array.getElem?_eq_getElem hlt
    refine wpAny_pyNext_list_item hit' (F'.lst hL) hv fun h₂ hit₂ hs₂ => ?_
    replace hs₂ : Heap.SameBut I H h₂ := hs₂
    refine wpAny_of_eq rfl ?_
    have F2 : Fr h₀ env.locals h₂ m' := F'.change hs₂ (Ne.symm hLI) hI₀
    refine wpAny_assign_Name (wpAny_storeName_local hx F2.ns (fun h₃ hn₃ hs₃ => ?_) hp)
    have F3 := F2.set hn₃ hs₃
    obtain ⟨oI, hoI, hcI⟩ := hit₂
    have hoI3 : h₃.get? I = some oI := (hs₃.2 I (Ne.symm hLI)).trans hoI
    have N3 : News h₀ env.locals h₃ ((I, oI) :: nx) := fun p hp => by
      rcases List.mem_cons.mp hp with rfl | hp
      · exact ⟨hoI3, Ne.symm hLI, hI₀⟩
      · have z := N' p hp
        exact ⟨(hs₃.2 _ z.2.1).trans (hs₂.extBut _ _ (off' p hp) z.1), z.2⟩
    refine wpC_tk ?_
    refine wpC_mono (turn i _ m' nx I oI h₃ _ hv ?_ hJ off' F3 N3) (fun f s₄ h₄ ht₄ => ?_) fun _ _ x => x
    · exact Nat.le_trans hlk (Nat.le_add_right tk _)
    obtain ⟨rfl, h₅, tk₅, m₂, nx₅, rfl, F5, N5, off5, hJ5⟩ := h₄
    have zI := (N5 (I, oI) List.mem_cons_self).1
    exact ⟨items.size + 1 - (i + 1), by omega, h₅, tk₅, m₂, nx₅, i + 1, rfl, hlt, rfl, Nat.le_trans hlk (Nat.le_trans (Nat.le_add_right tk _) ht₄), ⟨oI, zI, hcI⟩, F5, fun p hp => N5 p (List.mem_cons_of_mem _ hp), off5, hJ5⟩
  · obtain rfl : i = items.size := Nat.le_antisymm hi (Nat.not_lt.mp hlt)
    refine wpAny_pyNext_list_end hh hit' (F'.lst hL) (by simp) fun h₂ hs₂ => ?_
    have hk : ∀ b o, b ∉ [I] → H.get? b = some o → h₂.get? b = some o := fun b o hb e => hs₂ b o (by simpa using hb) e
    exact done m' nx h₂ _ hlk hJ (LCg.fr_but F' hk hLI hI₀) (LCg.news_but N' hk off')
end
end Mine

/-! Grown -/
namespace Mine
open PySem PySem.W PyProof.Rows PySem.Calls PySem.Spec
set_option maxRecDepth 100000
set_option maxHeartbeats 8000000
set_option pp.maxSteps 20000
set_option pp.deepTerms false
set_option pp.deepTerms.threshold 6
example : True := by (w_top off); trivial
/-! ## _law_grown -/
def imageL (pp : List Nat) (w : List Nat) : List Nat := w.reverse.map (mate pp)
def seek (w im : List Nat) : Nat → Nat → Nat
  | 0, st => st
  | f + 1, st => if w.drop st = im.take (w.length - st) then st else seek w im f (st + 1)
def closeL (pp : List Nat) (w : List Nat) : List Nat :=
  w ++ (imageL pp w).drop (w.length - seek w (imageL pp w) w.length 0)
def frontL (pp : List Nat) (cs : List Nat) : Nat → List Nat
  | 0 => []
  | i + 1 => closeL pp (frontL pp cs i ++ [cs.getD i 0])
theorem mate_four (pp : List Nat) {c : Nat} (hpp : ∀ x ∈ pp, x < 4) : mate pp c ∈ four := by
  unfold mate
  have h : ∀ k < 4, four.getD k 0 ∈ four := by decide
  apply h
  rw [List.getD_eq_getElem?_getD]
  cases e : pp[four.idxOf c]? with
  | none => decide
  | some x => exact hpp x (List.mem_of_getElem? e)
theorem imageL_four {pp w : List Nat} (hpp : ∀ x ∈ pp, x < 4) : ∀ d ∈ imageL pp w, d ∈ four := fun d hd => by
  obtain ⟨c, _, rfl⟩ := List.mem_map.mp hd
  exact mate_four pp hpp
theorem imageL_len (pp w : List Nat) : (imageL pp w).length = w.length := by unfold imageL; rw [List.length_map, List.length_reverse]
theorem closeL_four {pp w : List Nat} (hpp : ∀ x ∈ pp, x < 4) (hw : ∀ d ∈ w, d ∈ four) : ∀ d ∈ closeL pp w, d ∈ four := fun d hd => by
  rcases List.mem_append.mp hd with hd | hd
  · exact hw d hd
  · exact imageL_four hpp d (List.mem_of_mem_drop hd)
theorem frontL_four {pp cs : List Nat} (hpp : ∀ x ∈ pp, x < 4) (hcs : ∀ d ∈ cs, d ∈ four) : ∀ i, i ≤ cs.length → ∀ d ∈ frontL pp cs i, d ∈ four
  | 0, _, d, hd => by cases hd
  | i + 1, hi, d, hd => closeL_four hpp (fun e he => by
      rcases List.mem_append.mp he with he | he
      · exact frontL_four hpp hcs i (by omega) e he
      · rw [List.mem_singleton.mp he, List.getD_eq_getElem?_getD, List.getElem?_eq_getElem (by omega)]
        exact hcs _ (List.getElem_mem _)) d hd
theorem slice_tail {w : List Nat} {k : Nat} (hk : k ≤ w.length) : Txt.slice ⟨w.toArray⟩ (some (k : Int)) none = ⟨(w.drop k).toArray⟩ := by
  have hl : (⟨w.toArray⟩ : Str).length = w.length := by show w.toArray.size = _; exact List.size_toArray
  rw [slice_from_eq (x := ⟨w.toArray⟩) (i := (k : Int)) (b := (w.length : Int)) (by omega) (by rw [hl]; omega) (by rw [hl])]
  apply str_ext
  show ((w.toArray.toList.drop _).take _).toArray.toList = (w.drop k).toArray.toList
  rw [List.toList_toArray, List.toList_toArray, List.toList_toArray, Int.toNat_natCast, show ((w.length : Int) - (k : Int)).toNat = w.length - k by omega, List.take_of_length_le (by rw [List.length_drop]; exact Nat.le_refl _)]
theorem slice_head {w : List Nat} {k : Nat} (hk : k ≤ w.length) : Txt.slice ⟨w.toArray⟩ none (some (k : Int)) = ⟨(w.take k).toArray⟩ := by
  rw [eq_of_beq (slice_closes_to (x := ⟨w.toArray⟩) (j := (k : Int)) ⟨by omega, by show (k : Int) ≤ ((w.toArray.toList.length : Nat) : Int); rw [List.toList_toArray]; omega⟩)]
  apply str_ext
  show ((w.toArray.toList.drop _).take _).toArray.toList = (w.take k).toArray.toList
  rw [List.toList_toArray, List.toList_toArray, List.toList_toArray, Int.sub_zero, Int.toNat_natCast]
  rfl
theorem str_bne {a b : List Nat} : ((⟨a.toArray⟩ : Str) != ⟨b.toArray⟩) = !decide (a = b) := by
  by_cases h : a = b
  · subst h; simp
  · have : (⟨a.toArray⟩ : Str) ≠ ⟨b.toArray⟩ := fun q => h (by have := congrArg (fun x : Str => x.cps.toList) q; exact this)
    simp [bne, h, this]
theorem seek_here {w im : List Nat} {f st : Nat} (h : w.drop st = im.take (w.length - st)) : seek w im f st = st := by
  cases f with
  | zero => rfl
  | succ f => rw [seek, if_pos h]
theorem seek_on {w im : List Nat} {f st : Nat} (h : w.drop st ≠ im.take (w.length - st)) : seek w im (f + 1) st = seek w im f (st + 1) := by rw [seek, if_neg h]
theorem seek_le (w im : List Nat) : ∀ f st, st + f ≤ w.length → seek w im f st ≤ w.length
  | 0, st, h => by rw [seek]; omega
  | f + 1, st, h => by
    rw [seek]
    split
    · omega
    · exact seek_le w im f (st + 1) (by omega)
local macro_rules | `(tactic| walk_at "call ref") => `(tactic| (refine wpAny_halt ?_))
theorem grown_spec {prog : Program} (w : World) {mean : ExcName → Option Value} {mg mb : Str → Option Value} (dp un : Nat) (gd : Option (List Code)) (cn : Str) (cs : Scope) (a : Addr) (ccd : Value) (cl : List (Str × Addr)) (outer : List Env) (A₀ : Around) (base h₀ : Heap) (L : Addr) (m : Str → Option Value)
    (news : List (Addr × Obj)) (s : Shared) (la : Addr) (litems : Array Value) (ls : List Nat) (b : Nat) (tb : Tok) (pl : Addr) (items : Array Value) (Q E : Value → Shared → Prop)
    (B : Below A₀ base outer h₀) (F : Fr h₀ L s.heap m) (X : (hd.heap_39 w.params).In h₀) (N : News h₀ L s.heap news) (T : Top hd.view_39 (looseW hd.view_39 []) mean mg mb h₀) (hk : cs.kind = .function)
    (hdp : dp + 3 < recursionLimit) (hu : un + 24 < cLine) (hb : b = 0 ∨ b = 1) (pp : List Nat) (hp : s.heap.IsList pl items) (hpi : IntsAre items.toList (pp.map Int.ofNat)) (hpn : pp.length = 4) (hp4 : ∀ x ∈ pp, x < 4)
    (hls : s.heap.IsList la litems) (hli : IntsAre litems.toList (ls.map Int.ofNat)) (hl4 : ∀ x ∈ ls, x < 4) (hln : ls.length ≤ 16) (hlen : ∀ i, i ≤ ls.length → (frontL pp (ls.map fun x => four.getD x 0) i).length ≤ 62) (htk : 0 < s.toks)
    (ret : ∀ D ys n h' tk', StrsAre ys ((List.range (ls.length + 1)).map fun i => ⟨(frontL pp (ls.map fun x => four.getD x 0) i).toArray⟩) → Fr h₀ L h' m → News h₀ L h' ((D, listOf ys.toArray n) :: news) → Q (.ref D) { s with heap := h', toks := tk' }) :
    wpC (model prog w) (ktrTop dp un gd cn cs L a ccd cl outer) (call (.ref 75) [.ref la, .int b tb, .ref pl]) Q E s := by
  refine wpC_call ?_
  (refine' enterC ?k1 ?k2 ?k3 ?k4 ?k5 ?kA ?kF ?kK ?k6 ?k7 ?k8 ?k9 ?kB ?_ ?c2 ?c3 ?c4 ?c5; (case kA => exact rfl); (case kF => exact rfl); (case kK => assumption); (case k1 => k_asm); (case k2 => k_asm); (case k3 => k_asm); (case k4 => k_asm); (case k5 => k_asm); (case k6 => k_is); (case k7 => k_is); (case k8 => ktr_room); (case k9 => exact BindsTo.of_eq rfl); (case c5 => decide); (case kB => exact locs rfl); (case c2 => exact rfl); (case c3 => exact rfl); (case c4 => exact rfl); k_whole; intro L' h' F' N' B' X' T'; (try dsimp only))
  generalize hcs : (ls.map fun x => four.getD x 0) = ks at *
  refine wpC_execs_any (wpAny_tk (wpAny_stop ?_))
  k_steps
  rename Fr s.heap _ _ _ => F1
  rename News s.heap _ _ _ => N1
  rename_i fr _ _ D1 _ _ _ _ h1
  unfold Stop
  intro htk1
  replace N1 : News s.heap L' h1 [(fr, listOf #[.str "" (s.toks + 3 + 1)] 0)] := fun p hp => N1 p (List.mem_cons_of_mem _ hp)
  dsimp only at htk1 F1 ⊢
  replace F1 := frKnown F1 [("word", .str "" (s.toks + 3)), ("fronts", .ref fr), ("letters", .ref la), ("which", .int b tb), ("partners", .ref pl)] (by intro p hp; simp only [List.mem_cons, List.not_mem_nil, or_false] at hp; rcases hp with rfl | rfl | rfl | rfl | rfl <;> rfl)
  have hlsz : litems.size = ls.length := by rw [← Array.length_toList, hli.length, List.length_map]
  have hks : ∀ d ∈ ks, d ∈ four := fun d hd => by
    rw [← hcs] at hd
    obtain ⟨x, hx, rfl⟩ := List.mem_map.mp hd
    have : ∀ k < 4, four.getD k 0 ∈ four := by decide
    exact this x (hl4 x hx)
  have hkl : ks.length = ls.length := by rw [← hcs, List.length_map]
  refine wpC_execs_cons (wpC_For (wpAny_stop ?_))
  k_steps
  show wpAny _ _ (pyIter _) _ _ _
  refine for_listC (lo := 1) (fun i m₁ nx => (∃ tw, m₁ "word" = some (.str ⟨(frontL pp ks i).toArray⟩ tw)) ∧ m₁ "fronts" = some (.ref fr) ∧ m₁ "which" = some (.int b tb) ∧ m₁ "partners" = some (.ref pl) ∧ ∃ ys n, nx = [(fr, listOf ys.toArray n)] ∧ StrsAre ys ((List.range (i + 1)).map fun i => ⟨(frontL pp ks i).toArray⟩))
    rfl rfl rfl hls F1 N1 ⟨⟨_, rfl⟩, rfl, rfl, rfl, _, _, rfl, .cons _ _ .nil⟩ ?lo1 ?turn1 ?done1
  case lo1 => exact Nat.le_trans (by omega) htk1
  case done1 =>
    rintro m₁ nx h2 tk2 hlo2 ⟨⟨tw, mw⟩, mf, mwh, mp, ys, n, rfl, hys⟩ F2 N2
    replace F2 := frKnown F2 [("fronts", .ref fr)] (by intro p hp; simp only [List.mem_cons, List.not_mem_nil, or_false] at hp; rcases hp with rfl; exact mf)
    show wpC _ _ _ _ _ _
    refine wpC_execs_any (wpAny_stop ?_)
    k_steps
    have hz := N2 (fr, listOf ys.toArray n) (by simp)
    rw [hlsz] at hys
    refine ⟨L', _, F2, fun FB NB => ret fr ys n _ _ hys FB (fun (p : Addr × Obj) hp => ?_)⟩
    rcases List.mem_cons.mp hp with rfl | hp
    · refine ⟨hz.1, fun q => ?_, ?_⟩
      · obtain ⟨o, _, _, ho, _⟩ := F.ns
        have : s.heap.get? fr = some o := by rw [← ho]; exact congrArg _ q
        rw [hz.2.2] at this; cases this
      · cases q : h₀.get? fr with
        | none => rfl
        | some o => have := F.keep fr o q; rw [hz.2.2] at this; cases this
    · exact NB p hp
  case turn1 =>
    rintro i v m₁ nx I oI h2 tk2 hv hlo2 ⟨⟨tw, mw⟩, mf, mwh, mp, ys, n, rfl, hys⟩ off2 F2 N2
    have hi : i < ls.length := by
      rcases Nat.lt_or_ge i litems.size with q | q
      · rw [← hlsz]; exact q
      · rw [Array.getElem?_eq_none q] at hv; cases hv
    obtain ⟨tl, hvl⟩ := ints_at hli hi
    rw [Array.getElem?_toList, hv] at hvl
    cases hvl
    have hlt4 : ls.getD i 0 < 4 := by
      rw [List.getD_eq_getElem?_getD, List.getElem?_eq_getElem hi]; exact hl4 _ (List.getElem_mem hi)
    have hkd : four.getD (ls.getD i 0) 0 = ks.getD i 0 := by
      have e1 : ls[i]? = some ls[i] := List.getElem?_eq_getElem hi
      rw [← hcs]
      simp only [List.getD_eq_getElem?_getD, List.getElem?_map, e1, Option.map_some, Option.getD_some]
    replace F2 := frKnown F2 [("letter", .int ((ls.getD i 0 : Nat) : Int) tl), ("word", .str ⟨(frontL pp ks i).toArray⟩ tw), ("fronts", .ref fr), ("which", .int b tb), ("partners", .ref pl)] (by intro p hp; simp only [List.mem_cons, List.not_mem_nil, or_false] at hp; rcases hp with rfl | rfl | rfl | rfl | rfl <;> first | rfl | exact mw | exact mf | exact mwh | exact mp)
    generalize hwd : frontL pp ks i = wd at *
    have hwl : wd.length ≤ 62 := hwd ▸ hlen i (by omega)
    have hw4 : ∀ d ∈ wd, d ∈ four := hwd ▸ frontL_four hp4 hks i (by omega)
    refine wpC_execs_any (wpAny_tk (wpAny_stop ?_))
    k_steps
    rw [item_four hlt4, hkd]
    refine' add_spec w _ _ _ _ _ _ _ _ _ _ _ _ _ _ _ _ _ (sg (ks.getD i 0)) _ _ _ _ B' F2 X' N2 T' rfl ?kd ?ku ?kx ?ky ?kr
    case kd => ktr_room
    case ku => ktr_units
    case kx => show wd.toArray.size ≤ 100000; rw [List.size_toArray]; omega
    case ky => show 1 ≤ 100000; omega
    intro t3 h3 tk3 F3 N3
    rw [snoc_sg]
    have hc4 : ks.getD i 0 ∈ four := by
      rw [List.getD_eq_getElem?_getD, List.getElem?_eq_getElem (by omega)]; exact hks _ (List.getElem_mem _)
    generalize hw1 : wd ++ [ks.getD i 0] = w1 at *
    have hw1l : w1.length = wd.length + 1 := by rw [← hw1]; simp
    have hw14 : ∀ d ∈ w1, d ∈ four := fun d hd => by
      rw [← hw1] at hd
      rcases List.mem_append.mp hd with hd | hd
      · exact hw4 d hd
      · rw [List.mem_singleton.mp hd]; exact hc4
    k_steps
    rename Fr s.heap _ _ _ => F4
    rename News s.heap _ _ _ => N4
    unfold Stop
    intro htk4
    dsimp only at htk4 F4 N4 ⊢
    replace F4 := frKnown F4 [("word", .str ⟨w1.toArray⟩ t3), ("fronts", .ref fr), ("which", .int b tb), ("partners", .ref pl)] (by intro p hp; simp only [List.mem_cons, List.not_mem_nil, or_false] at hp; rcases hp with rfl | rfl | rfl | rfl <;> rfl)
    refine wpC_execs_cons (wpC_Assign_Name (wpC_Call_def (K := hd.heap_39 w.params) (a := 68) rfl ?_ rfl rfl) rfl)
    walk1
    refine ⟨rfl, wpAny_stop ?_⟩
    k_steps
    refine ⟨fun a o q => F4.keep a o (X' a o q), ?_⟩
    refine img_spec w _ _ _ _ _ _ _ _ _ _ _ _ _ _ _ _ w1 _ b _ pl items _ _ B' F4 X' N4 T' rfl (by ktr_room) (by ktr_units) hb hw14 (by omega) (by omega) pp (F4.lst hp) hpi hpn hp4 (Nat.lt_of_lt_of_le (Nat.lt_of_lt_of_le Nat.zero_lt_one hlo2) (Nat.le_trans htk4 (by repeat (first | exact Nat.le_refl _ | refine Nat.le_trans ?_ (Nat.le_add_right _ _))))) ?_
    intro t5 h5 tk5 F5 N5
    have him : w1.reverse.map (mate pp) = imageL pp w1 := rfl
    rw [him]
    have himl := imageL_len pp w1
    have him4 := imageL_four (w := w1) hp4
    generalize hImg : imageL pp w1 = im at *
    clear him
    have hne : ((⟨im.toArray⟩ : Str) == Str.ofString "?") = false := by
      rw [beq_eq_false_iff_ne]
      intro q
      have q2 : im = [63] := by
        have := congrArg (fun x : Str => x.cps.toList) q
        exact this
      have := him4 63 (by rw [q2]; exact List.mem_singleton.mpr rfl)
      exact absurd this (by decide)
    k_steps
    rename Fr s.heap _ _ _ => F6
    rename News s.heap _ _ _ => N6
    dsimp only at F6 N6 ⊢
    replace F6 := frKnown F6 [("image", .str ⟨im.toArray⟩ t5), ("word", .str ⟨w1.toArray⟩ t3), ("fronts", .ref fr), ("which", .int b tb), ("partners", .ref pl)] (by intro p hp; simp only [List.mem_cons, List.not_mem_nil, or_false] at hp; rcases hp with rfl | rfl | rfl | rfl | rfl <;> rfl)
    refine wpC_execs_any (wpAny_stop ?_)
    k_steps
    rename Fr s.heap _ _ _ => F7
    rename News s.heap _ _ _ => N7
    show wpC _ _ _ _ _ _
    refine wpC_execs_any (wpAny_stop ?_)
    k_steps
    rename Fr s.heap _ _ _ => F8
    rename News s.heap _ _ _ => N8
    show wpC _ _ _ _ _ _
    dsimp only at F8 N8 ⊢
    have hsw : (⟨w1.toArray⟩ : Str).length = w1.length := by show w1.toArray.size = _; exact List.size_toArray
    have hsi : (⟨im.toArray⟩ : Str).length = im.length := by show im.toArray.size = _; exact List.size_toArray
    refine wpC_execs_any (wpAny_While (codeAny_whileLoop (fun k s' => ∃ h' tk m' st ts, s' = { s with heap := h', toks := tk } ∧ st ≤ w1.length ∧ k = w1.length - st ∧ seek w1 im (w1.length - st) st = seek w1 im w1.length 0 ∧ Fr s.heap L' h' m' ∧ News s.heap L' h' [(I, oI), (fr, listOf ys.toArray n)] ∧
      m' "start" = some (.int ((st : Nat) : Int) ts) ∧ m' "image" = some (.str ⟨im.toArray⟩ t5) ∧ m' "word" = some (.str ⟨w1.toArray⟩ t3) ∧ m' "fronts" = some (.ref fr) ∧ m' "which" = some (.int b tb) ∧ m' "partners" = some (.ref pl)) ?_ w1.length
      ⟨_, _, _, 0, _, rfl, Nat.zero_le _, rfl, rfl, F8, N8, rfl, rfl, rfl, rfl, rfl, rfl⟩))
    rintro k s' ⟨h9, tk9, m9, st, ts, rfl, hst, rfl, hseek, F9, N9, ms, mi, mw, mf, mwh, mp⟩
    replace F9 := frKnown F9 [("start", .int ((st : Nat) : Int) ts), ("image", .str ⟨im.toArray⟩ t5), ("word", .str ⟨w1.toArray⟩ t3), ("fronts", .ref fr), ("which", .int b tb), ("partners", .ref pl)] (by intro p hp; simp only [List.mem_cons, List.not_mem_nil, or_false] at hp; rcases hp with rfl | rfl | rfl | rfl | rfl | rfl <;> assumption)
    refine wpAny_stop ?_
    k_steps
    rename Fr s.heap _ _ _ => F10
    rename News s.heap _ _ _ => N10
    have e1 := slice_tail (w := w1) hst
    have e2 : Txt.slice ⟨im.toArray⟩ none (some (((⟨w1.toArray⟩ : Str).length : Int) - (st : Int))) = ⟨(im.take (w1.length - st)).toArray⟩ := by
      rw [hsw, show ((w1.length : Int) - (st : Int)) = ((w1.length - st : Nat) : Int) by omega]
      exact slice_head (by omega)
    rw [e1, e2, str_bne]
    show (if _ then _ else _)
    by_cases e : w1.drop st = im.take (w1.length - st)
    · rw [decide_eq_true e]
      simp only [Bool.not_true, Bool.false_eq_true, if_false]
      refine wpAny_execs_nil ?_
      rw [seek_here e] at hseek
      subst hseek
      show wpC _ _ _ _ _ _
      have hfront : frontL pp ks (i + 1) = w1 ++ im.drop (w1.length - seek w1 im w1.length 0) := by
        show closeL pp (frontL pp ks i ++ [ks.getD i 0]) = _
        rw [hwd, hw1]
        unfold closeL
        rw [hImg]
      have hfl := hlen (i + 1) (by omega)
      clear e e1 e2
      generalize seek w1 im w1.length 0 = sk at *
      have e3 : Txt.slice ⟨im.toArray⟩ (some (((⟨w1.toArray⟩ : Str).length : Int) - (sk : Int))) none = ⟨(im.drop (w1.length - sk)).toArray⟩ := by
        rw [hsw, show ((w1.length : Int) - (sk : Int)) = ((w1.length - sk : Nat) : Int) by omega]
        exact slice_tail (by omega)
      refine wpC_execs_any (wpAny_stop ?_)
      k_steps
      rename Fr s.heap _ _ _ => F11
      rename News s.heap _ _ _ => N11
      rw [e3]
      refine' add_spec w _ _ _ _ _ _ _ _ _ _ _ _ _ _ _ _ _ _ _ _ _ _ B' F11 X' N11 T' rfl ?kd4 ?ku4 ?kx4 ?ky4 ?kr4
      case kd4 => ktr_room
      case ku4 => ktr_units
      case kx4 => show w1.toArray.size ≤ 100000; rw [List.size_toArray]; omega
      case ky4 => show (im.drop _).toArray.size ≤ 100000; rw [List.size_toArray, List.length_drop]; omega
      intro t12 h12 tk12 F12 N12
      have ecat : (⟨w1.toArray⟩ : Str) ++ ⟨(im.drop (w1.length - sk)).toArray⟩ = ⟨(frontL pp ks (i + 1)).toArray⟩ := by
        rw [hfront]
        apply str_ext
        rw [Str.cps_append, Array.toList_append]
      rw [ecat]
      k_steps
      rename Fr s.heap _ _ _ => F13
      rename News s.heap _ _ _ => N13
      try dsimp only at F13 N13
      show wpC _ _ _ _ _ _
      replace F13 := frKnown F13 [("word", .str ⟨(frontL pp ks (i + 1)).toArray⟩ t12), ("fronts", .ref fr), ("which", .int b tb), ("partners", .ref pl)] (by intro p hp; simp only [List.mem_cons, List.not_mem_nil, or_false] at hp; rcases hp with rfl | rfl | rfl | rfl <;> rfl)
      refine wpC_execs_any (wpAny_stop ?_)
      k_steps
      have hz := N13 (fr, listOf ys.toArray n) (by simp)
      have zI := N13 (I, oI) (by simp)
      have hIf : I ≠ fr := fun q => off2 (fr, listOf ys.toArray n) (List.mem_singleton.mpr rfl) q.symm
      have hyl : ys.length = i + 1 := by rw [StrsAre.len_eq hys, List.length_map, List.length_range]
      refine append_at (n := n) hz.1 (fun h14 hs14 hD14 => ?_) (hsz := by rw [List.size_toArray, hyl]; show i + 1 ≤ 2 ^ 24; omega)
      dsimp only at hs14 hD14 ⊢
      show wpC _ _ _ _ _ _
      refine wpC_execs_nil ⟨rfl, h14, _, _, [(fr, listOf (ys ++ [Value.str ⟨(frontL pp ks (i + 1)).toArray⟩ t12]).toArray (n + 1))], rfl, F13.change hs14 hz.2.1 hz.2.2, fun p hp => ?_, fun p hp => (by rw [List.mem_singleton.mp hp]; exact Ne.symm hIf), ⟨_, rfl⟩, rfl, rfl, rfl, _, _, rfl, ?_⟩
      · rcases List.mem_cons.mp hp with rfl | hp
        · exact ⟨hs14.extBut _ _ hIf zI.1, zI.2⟩
        · rw [List.mem_singleton.mp hp]
          refine ⟨?_, hz.2⟩
          rw [List.push_toArray] at hD14
          exact hD14
      · rw [List.range_succ, List.map_append]
        exact hys.append' (.cons _ _ .nil)
    · rw [decide_eq_false e]
      simp only [Bool.not_false, if_true]
      have hlt : st < w1.length := by
        rcases Nat.lt_or_ge st w1.length with q | q
        · exact q
        · exact absurd (by rw [List.drop_of_length_le q, Nat.sub_eq_zero_of_le q, List.take_zero]) e
      refine wpAny_stop ?_
      k_steps
      refine ⟨w1.length - (st + 1), by omega, _, _, _, st + 1, _, rfl, hlt, rfl, ?_, by assumption, by assumption, by push_cast; rfl, rfl, rfl, rfl, rfl, rfl⟩
      rw [← hseek, show w1.length - st = w1.length - (st + 1) + 1 by omega, seek_on e]
end Mine

/-! EnumA -/
namespace Mine
open PySem PySem.W PyProof.Rows PySem.Calls PySem.Spec
set_option maxRecDepth 100000
set_option maxHeartbeats 400000
example : True := by (w_top off); trivial
section
variable {prog : Program} {w : World} {A : Around} {E : Value → Shared → Prop} {s : Shared}
/-- for i, v in enumerate(a list that stays): the ledger may grow -/
theorem for_enumA {R : Result → Shared → Prop} {env : Env} {h₀ : Heap} {m : Str → Option Value} {xi xv : Str} {pi pv pt : Pos} {x1 : Nat} {body : List Stmt} {e it l : Addr} {items : Array Value} {news : List (Addr × Obj)}
    (J : Nat → (Str → Option Value) → List (Addr × Obj) → Prop)
    (hh : A.handled = none)
    (hL : h₀.IsList l items) (hei : e ≠ it) (hLe : env.locals ≠ e) (hLi : env.locals ≠ it) (he0 : h₀.get? e = none) (hi0 : h₀.get? it = none) (off : ∀ p ∈ news, p.1 ≠ e ∧ p.1 ≠ it)
    (he : IsEnum s.heap e it 0 .none) (hit : s.heap.IsListIter it l 0) (F : Fr h₀ env.locals s.heap m) (N : News h₀ env.locals s.heap news) (hj : J 0 m news)
    (turn : ∀ i u v (m₁ : Str → Option Value) nx oe oi h tk, items[i]? = some v → J i m₁ nx → (∀ p ∈ nx, p.1 ≠ e ∧ p.1 ≠ it) → Fr h₀ env.locals h m₁ → News h₀ env.locals h ((e, oe) :: (it, oi) :: nx) →
      wpAny (model prog w) A (storeName env xi (.int i u)) (fun _ s₃ => wpAny (model prog w) A (storeName env xv v) (fun _ s₄ => wpAny (model prog w) A (execs body env) (fun f s₂ => f = .next ∧ ∃ h' tk' m₂ nx', s₂ = { s with heap := h', toks := tk' } ∧ Fr h₀ env.locals h' m₂ ∧ News h₀ env.locals h' ((e, oe) :: (it, oi) :: nx') ∧ (∀ p ∈ nx', p.1 ≠ e ∧ p.1 ≠ it) ∧ J (i + 1) m₂ nx')
        (fun _ _ => False) s₄) (fun _ _ => False) s₃) (fun _ _ => False) { s with heap := h, toks := tk })
    (done : ∀ m₁ nx h tk, J items.size m₁ nx → Fr h₀ env.locals h m₁ → News h₀ env.locals h nx → R (.ok .next) { s with heap := h, toks := tk }) :
    codeAny (model prog w) A (.forLoop (.Tuple [.Name xi pi, .Name xv pv] x1 pt) (.ref e) body [] env) R s := by
  have hli : l ≠ it := fun q => by obtain ⟨o, ho, _⟩ := hL; rw [q, hi0] at ho; cases ho
  have hle : l ≠ e := fun q => by obtain ⟨o, ho, _⟩ := hL; rw [q, he0] at ho; cases ho
  have D := Draws.list (prog := prog) (w := w) (A := A.in1) hh it l hli items
  have hef : e ∉ [it, l] := by simp [hei, Ne.symm hle]
  have old : ∀ b o, h₀.get? b = some o → b ≠ e ∧ b ≠ it := fun b o x => ⟨fun q => (by rw [q, he0] at x; cases x), fun q => (by rw [q, hi0] at x; cases x)⟩
  refine codeAny_forLoop_any
    (fun k s' => ∃ h' tk m' nx i old, s' = { s with heap := h', toks := tk } ∧ IsEnum h' e it ((i : Nat) : Int) old ∧ h'.IsListIter it l i ∧ Fr h₀ env.locals h' m' ∧ News h₀ env.locals h' nx ∧ (∀ p ∈ nx, p.1 ≠ e ∧ p.1 ≠ it) ∧ J i m' nx ∧ i ≤ items.size ∧ k = items.size + 1 - i) ?_ (items.size + 1)
    ⟨s.heap, s.toks, m, news, 0, _, rfl, he, hit, F, N, off, hj, Nat.zero_le _, rfl⟩
  rintro k s' ⟨H, tk, m', nx, i, od, rfl, he', hit', F', N', off', hJ, hi, rfl⟩
  by_cases hlt : i < items.size
  · refine enumU_pyNext (DrawsU.of D) he' ⟨hit', F'.lst hL⟩ hlt hei hef fun v h₁ tk₁ u hP htk ho hst₁ hT hk₁ => ?_
    have helt : e < H.objs.size := Heap.lt_size he'
    refine wpAny_letOwnedTupleGo_enum ho fun h₂ he₂ hs₂ => ?_
    replace hs₂ : Heap.SameBut e h₁ h₂ := hs₂
    replace he₂ : IsEnum h₂ e it ((i : Int) + 1) v := he₂
    have hT₂ : h₂.IsTuple H.objs.size #[.int i u, v] := ⟨_, hs₂.extBut _ _ (Nat.ne_of_gt helt) hT, rfl, _, rfl⟩
    refine wpAny_assign_Tuple hh hT₂ rfl rfl fun h₃ hx₃ => ?_
    replace hx₃ : Heap.ExtBut h₂.objs.size h₂ h₃ := hx₃
    have old₃ : ∀ b o, h₂.get? b = some o → h₃.get? b = some o := fun b o x => hx₃ b o (Nat.ne_of_lt (Heap.lt_size x)) x
    have up : ∀ b o, b ≠ e → b ≠ it → H.get? b = some o → h₃.get? b = some o := fun b o qe qi y => old₃ b o (hs₂.extBut b o qe (hk₁ b o qe qi y))
    have F₃ : Fr h₀ env.locals h₃ m' := ⟨F'.ns.at' fun o x => up _ o hLe hLi x, fun b o x => up b o (old b o x).1 (old b o x).2 (F'.keep b o x), F'.above⟩
    show wpAny _ A (do holding [v] (assign (.Name xi pi) env (.int i u)); do holding [] (assign (.Name xv pv) env v); pure ()) _ _ _
    have he₃ : IsEnum h₃ e it ((i : Int) + 1) v := old₃ _ _ he₂
    obtain ⟨oi, hoi, hci⟩ := hst₁.1
    have hoi₃ : h₃.get? it = some oi := old₃ _ _ (hs₂.extBut _ _ (Ne.symm hei) hoi)
    have N₃ : News h₀ env.locals h₃ ((e, _) :: (it, oi) :: nx) := fun p hp => by
      rcases List.mem_cons.mp hp with rfl | hp
      · exact ⟨he₃, Ne.symm hLe, he0⟩
      · rcases List.mem_cons.mp hp with rfl | hp
        · exact ⟨hoi₃, Ne.symm hLi, hi0⟩
        · have z := N' p hp
          exact ⟨up _ _ (off' p hp).1 (off' p hp).2 z.1, z.2⟩
    refine wpAny_bind (wpAny_holding (wpAny_assign_Name (wpAny_mono (turn i u v m' nx _ oi h₃ _ hP hJ off' F₃ N₃) (fun _ s₄ h₄ => ?_) fun _ _ x => x.elim)))
    refine wpAny_bind (wpAny_holding (wpAny_assign_Name (wpAny_mono h₄ (fun _ s₅ h₅ => wpAny_pure ?_) fun _ _ x => x.elim)))
    refine wpAny_mono h₅ (fun f s₃ h₆ => ?_) fun _ _ x => x.elim
    obtain ⟨rfl, h₆, tk₆, m₂, nx₂, rfl, F₆, N₆, off₆, hJ₆⟩ := h₆
    have ze := (N₆ _ List.mem_cons_self).1
    have zi := (N₆ _ (List.mem_cons_of_mem _ List.mem_cons_self)).1
    exact ⟨items.size + 1 - (i + 1), by omega, h₆, tk₆, m₂, nx₂, i + 1, v, rfl, by push_cast; exact ze, ⟨oi, zi, hci⟩, F₆, fun p hp => N₆ p (List.mem_cons_of_mem _ (List.mem_cons_of_mem _ hp)), off₆, hJ₆, hlt, rfl⟩
  · obtain rfl : i = items.size := Nat.le_antisymm hi (Nat.not_lt.mp hlt)
    refine wpAny_pyNext_enum_endD D he' ⟨hit', F'.lst hL⟩ fun h₂ hs₂ => ?_
    have hk : ∀ b o, b ∉ [it] → H.get? b = some o → h₂.get? b = some o := fun b o hb x => hs₂ b o (by simpa using hb) x
    refine wpAny_execs_nil ?_
    exact done m' nx h₂ _ hJ (LCg.fr_but F' hk hLi hi0) (LCg.news_but N' hk fun p hp => (off' p hp).2)
end
end Mine

/-! CompG -/
namespace Mine
open PySem PySem.W PyProof.Rows PySem.Calls PySem.Spec
set_option maxRecDepth 100000
set_option maxHeartbeats 800000
example : True := by (w_top off); trivial
open LCg
/-! ## list comprehensions in general: a test, a use, a source that must be kept -/
structure WalkK (prog : Program) (w : World) (A : Around) (I : Addr) (n : Nat) (P : Nat → Value → Nat → Prop) (St : Nat → Heap → Prop) (K : Heap → Prop) : Prop where
  live : ∀ i h, St i h → ∃ o, h.get? I = some o
  frame : ∀ i h h' o, St i h → h.get? I = some o → h'.get? I = some o → St i h'
  item : ∀ i (s : Shared) (Q : Option Value → Shared → Prop) (E : Value → Shared → Prop), i < n → St i s.heap → K s.heap →
    (∀ v h' tk, P i v s.toks → s.toks ≤ tk → St (i + 1) h' → (∀ b o, b ∉ [I] → s.heap.get? b = some o → h'.get? b = some o) → Q (some v) { s with heap := h', toks := tk }) → wpAny (model prog w) A (pyNext (.ref I)) Q E s
  done : ∀ (s : Shared) (Q : Option Value → Shared → Prop) (E : Value → Shared → Prop), St n s.heap → K s.heap →
    (∀ h' tk, s.toks ≤ tk → (∀ b o, b ∉ [I] → s.heap.get? b = some o → h'.get? b = some o) → Q none { s with heap := h', toks := tk }) → wpAny (model prog w) A (pyNext (.ref I)) Q E s
  self : ∀ i (s : Shared) (Q : Value → Shared → Prop) (E : Value → Shared → Prop), St i s.heap → Q (.ref I) s → wpAny (model prog w) A (pyIter (.ref I)) Q E s
theorem WalkK.of {prog : Program} {w : World} {A : Around} {I : Addr} {n : Nat} {P : Nat → Value → Nat → Prop} {St : Nat → Heap → Prop} (W : WalkT prog w A I n P St) : WalkK prog w A I n P St fun _ => True where
  live := W.live
  frame := W.frame
  item := fun i s Q E hi st _ hQ => W.item i s Q E hi st hQ
  done := fun s Q E st _ hQ => W.done s Q E st hQ
  self := W.self
theorem WalkK.list {prog : Program} {w : World} {A : Around} (hh : A.handled = none) (I ax : Addr) (items : Array Value) :
    WalkK prog w A I items.size (fun i v _ => items[i]? = some v) (fun i h => h.IsListIter I ax i) (fun h => h.IsList ax items) where
  live := fun _ _ st => let ⟨o, ho, _⟩ := st; ⟨o, ho⟩
  frame := fun i h h' o st e e' => by obtain ⟨o', q, r⟩ := st; rw [e] at q; cases q; exact ⟨o, e', r⟩
  item := fun i s Q E hi st hl hQ => wpAny_pyNext_list_item st hl (x := items[i]) (by simp [hi]) fun h' hit' hs' =>
    hQ _ h' s.toks (by simp [hi]) (Nat.le_refl _) hit' fun b o hb e => hs'.extBut b o (fun h => hb (by simp [h])) e
  done := fun s Q E st hl hQ => wpAny_pyNext_list_end hh st hl (by simp) fun h' he' => hQ h' s.toks (Nat.le_refl _) fun b o hb e => he' b o (fun h => hb (by simp [h])) e
  self := fun _ _ _ _ st hQ => wpAny_pyIter_listiter st hQ

section
variable {prog : Program} {w : World} {A : Around} {E : Value → Shared → Prop} {s : Shared} {h₀ : Heap} {L : Addr} {m : Str → Option Value} {env : Env}
theorem comp_core {elt iter : Expr} {ifs : List Expr} {x : Str} {px : Pos} {scope : Scope} {cl : List (Str × Addr)} {pos : Pos} {RR : Value → Addr → Result → Shared → Prop} {n lo : Nat} {K : Heap → Prop} {P : Nat → Value → Nat → Prop} {St : Addr → Nat → Heap → Prop} {news : List (Addr × Obj)} {o0 : Obj}
    (hcell : ∀ y ∈ scope.names, y.2 ≠ .cell) (hkind : scope.kind = .function)
    (hx : scope.names.lookup x = some .local)
    (J : Nat → List Value → Prop)
    (W : WalkK prog w A s.heap.objs.size n P (St s.heap.objs.size) K) (hK : ∀ h, Fr h₀ L h m → News h₀ L h news → K h) (hst : St s.heap.objs.size 0 (s.heap.push o0))
    (F : Fr h₀ L s.heap m) (N : News h₀ L s.heap news) (hn : n ≤ sizeLine) (hlo : lo ≤ s.toks) (hJ0 : J 0 [])
    (turn : ∀ i v ys I oI C oC D m₂ h t₀ t₁, i < n → P i v t₀ → lo ≤ t₀ → t₀ ≤ t₁ → J i ys → NsObj oC m₂ → m₂ x = some v → Fr h₀ L h m → News h₀ L h ((I, oI) :: (C, oC) :: (D, lst ys) :: news) → Off3 I C D news → ((@Ne Nat I C) ∧ (@Ne Nat I D) ∧ (@Ne Nat C D)) →
      wpAny (model prog w) A (forIn ifs true fun c r => if r = true then do let ok ← isTrue c (compEnvC scope cl C env) (eval c (compEnvC scope cl C env)); pure (ForInStep.yield ok) else pure (ForInStep.yield r)) (fun ok s₃ =>
        if ok = true then wpAny (model prog w) A (eval elt (compEnvC scope cl C env)) (fun y s' => ∃ h' tk', s' = { s with heap := h', toks := tk' } ∧ Fr h₀ L h' m ∧ News h₀ L h' ((I, oI) :: (C, oC) :: (D, lst ys) :: news) ∧ J (i + 1) (ys ++ [y])) (fun _ _ => False) s₃
        else ∃ h' tk', s₃ = { s with heap := h', toks := tk' } ∧ Fr h₀ L h' m ∧ News h₀ L h' ((I, oI) :: (C, oC) :: (D, lst ys) :: news) ∧ J (i + 1) ys) (fun _ _ => False) { s with heap := h, toks := t₁ })
    (fin : ∀ D C h tk ys m', J n ys → lo ≤ tk → ys.length ≤ n → Fr h₀ L h m → News h₀ L h ((D, lst ys) :: news) → Off1 D news → h.Ns C m' → h₀.get? C = none → C ≠ L → D ≠ C → (∀ p ∈ news, p.1 ≠ C) → RR (.ref D) C (.ok .next) { s with heap := h, toks := tk }) :
    wpAny (model prog w) A (newList []) (fun acc s₃ => wpAny (model prog w) A (newFunctionEnv scope env.globals cl [] env.qual none .none (some env)) (fun cenv s₄ =>
      codeAny (model prog w) A (.compStart (.ListComp elt [⟨.Name x px, iter, ifs, 0⟩] scope pos) 0 (.ref s.heap.objs.size) acc { cenv with scope := relabel scope env }) (RR acc cenv.locals) s₄) E s₃) E { s with heap := s.heap.push o0 } := by
  have hI₀ : h₀.get? s.heap.objs.size = none := next_is_new F
  have hIL : L ≠ s.heap.objs.size := Nat.ne_of_lt F.ns.lt
  have offI : ∀ p ∈ news, p.1 ≠ s.heap.objs.size := fun p hp => Nat.ne_of_lt (Heap.lt_size (N p hp).1)
  have F1 := F.push o0
  have N1 : News h₀ L (s.heap.push o0) news := fun p hp => ⟨Heap.get?_push_of_some _ (N p hp).1, (N p hp).2⟩
  generalize hI : s.heap.objs.size = I at *
  have hIlt : I < (s.heap.push o0).objs.size := by rw [Heap.size_push, hI]; exact Nat.lt_succ_self _
  generalize s.heap.push o0 = H1 at *
  refine wpAny_newObj_type (wpAny_newFunctionEnv hcell (by intro y hy; simp at hy) (fun h₁ hns₁ hsb₁ => ?_) hkind)
  dsimp only at hns₁ hsb₁ ⊢
  have hD₀ : h₀.get? H1.objs.size = none := next_is_new F1
  generalize hD : H1.objs.size = D at *
  have hP : (H1.push { cls := .type "list", dict := none, data := .seq ([] : List Value).toArray }).get? D = some (lst []) := by rw [← hD]; exact Heap.get?_push_size _ rfl
  have up1 : ∀ b o, H1.get? b = some o → (H1.push { cls := .type "list", dict := none, data := .seq ([] : List Value).toArray }).get? b = some o := fun b o e => Heap.get?_push_of_some _ e
  have hC : (H1.push { cls := .type "list", dict := none, data := .seq ([] : List Value).toArray }).objs.size = D + 1 := by rw [Heap.size_push, hD]
  generalize H1.push { cls := .type "list", dict := none, data := .seq ([] : List Value).toArray } = H2 at *
  rw [hC] at hns₁ hsb₁ ⊢
  have F2 := F1.keeps up1
  have hC₀ : h₀.get? (D + 1) = none := by rw [← hC]; exact next_is_new F2
  generalize hCC : D + 1 = C at *
  have hCD : C ≠ D := by rw [← hCC]; exact Nat.succ_ne_self _
  have hID : I ≠ D := Nat.ne_of_lt hIlt
  have hIC : I ≠ C := by rw [← hCC]; exact Nat.ne_of_lt (Nat.lt_succ_of_lt hIlt)
  have hLD : L < D := by rw [← hD]; exact F1.ns.lt
  have hLD' : D ≠ L := Nat.ne_of_gt hLD
  have hCL : C ≠ L := by rw [← hCC]; exact Nat.ne_of_gt (Nat.lt_succ_of_lt hLD)
  have offD : ∀ p ∈ news, p.1 ≠ D := fun p hp => by rw [← hD]; exact Nat.ne_of_lt (Heap.lt_size (N1 p hp).1)
  have offC : ∀ p ∈ news, p.1 ≠ C := fun p hp => by
    rw [← hC]; exact Nat.ne_of_lt (Heap.lt_size (up1 _ _ (N1 p hp).1))
  have off3 : Off3 I C D news := Off3.of fun p hp => ⟨offI p hp, offC p hp, offD p hp⟩
  have old : ∀ b o, b ≠ C → H2.get? b = some o → h₁.get? b = some o := fun b o q e => hsb₁.extBut b o q (Heap.get?_push_of_some _ e)
  obtain ⟨oI0, hoI0⟩ := W.live _ _ hst
  have hoI1 : h₁.get? I = some oI0 := old _ _ hIC (up1 _ _ hoI0)
  have hst₁ : St I 0 h₁ := W.frame _ _ _ _ hst hoI0 hoI1
  have F3 : Fr h₀ L h₁ m := (F2.push _).change hsb₁ hCL hC₀
  have N3 : News h₀ L h₁ ((D, lst []) :: news) := fun p hp => by
    rcases List.mem_cons.mp hp with rfl | hp
    · exact ⟨old _ _ (Ne.symm hCD) hP, hLD', hD₀⟩
    · exact ⟨old _ _ (offC p hp) (up1 _ _ (N1 p hp).1), (N1 p hp).2⟩
  have loop : ∀ s₃ : Shared, s₃ = { s with heap := h₁, toks := s.toks + ([] : List (Str × Value)).length } →
      codeAny (model prog w) A (.compLoop (.ListComp elt [⟨.Name x px, iter, ifs, 0⟩] scope pos) 0 (.ref I) (.ref D) (compEnvC scope cl C env))
        (RR (.ref D) C) s₃ := by
    rintro s₃ rfl
    refine codeAny_compLoop_tests
      (fun k s' => ∃ h' tk i ys m', s' = { s with heap := h', toks := tk } ∧ i ≤ n ∧ k = n + 1 - i ∧ ys.length ≤ i ∧ lo ≤ tk ∧ St I i h' ∧ Fr h₀ L h' m ∧ h'.Ns C m' ∧ News h₀ L h' ((D, lst ys) :: news) ∧ J i ys) ?_ (n + 1)
      ⟨h₁, _, 0, [], _, rfl, Nat.zero_le _, rfl, Nat.le_refl _, hlo, hst₁, F3, hns₁, N3, hJ0⟩
    rintro k s' ⟨h', tk, i, ys, m', rfl, hi, rfl, hyl, hlk, hst', F', hn', N', hJ⟩
    by_cases hlt : i < n
    · refine W.item i _ _ _ hlt hst' (hK _ F' fun p hp => N' p (List.mem_cons_of_mem _ hp)) fun v h₂ tk₂ hPv htk₂ hst₂ hk₂ => ?_
      have hk₂' : ∀ b o, b ≠ I → h'.get? b = some o → h₂.get? b = some o := fun b o q => hk₂ b o (by simpa using q)
      refine wpAny_assign_Name (wpAny_storeName_local (lookup_relabel_local hx) (hn'.at' fun o e => hk₂' _ o (Ne.symm hIC) e) (fun h₃ hn₃ hs₃ => ?_) (by simp [compEnvC, relabel, hkind]))
      obtain ⟨oI2, hoI2⟩ := W.live _ _ hst₂
      have hoI3 : h₃.get? I = some oI2 := hs₃.extBut _ _ hIC hoI2
      have hst₃ : St I (i + 1) h₃ := W.frame _ _ _ _ hst₂ hoI2 hoI3
      obtain ⟨oC, heC, hoC⟩ := ns_obj hn₃
      have F₃ : Fr h₀ L h₃ m := (fr_but F' hk₂ hIL hI₀).change hs₃ hCL hC₀
      have N₃ : News h₀ L h₃ ((I, oI2) :: (C, oC) :: (D, lst ys) :: news) := fun p hp => by
        rcases List.mem_cons.mp hp with rfl | hp
        · exact ⟨hoI3, Ne.symm hIL, hI₀⟩
        · rcases List.mem_cons.mp hp with rfl | hp
          · exact ⟨heC, hCL, hC₀⟩
          · have z := N' p hp
            have qI : p.1 ≠ I := by
              rcases List.mem_cons.mp hp with rfl | hp
              · exact Ne.symm hID
              · exact offI p hp
            have qC : p.1 ≠ C := by
              rcases List.mem_cons.mp hp with rfl | hp
              · exact Ne.symm hCD
              · exact offC p hp
            exact ⟨hs₃.extBut _ _ qC (hk₂' _ _ qI z.1), z.2⟩
      refine wpAny_tk (wpAny_mono (turn i v ys I oI2 C oC D _ h₃ tk _ hlt hPv hlk ?_ hJ hoC (by simp) F₃ N₃ off3 ⟨hIC, hID, hCD⟩) (fun ok s₄ h₄ ht₄ => ?_) fun _ _ e => e.elim)
      · exact Nat.le_trans htk₂ (Nat.le_add_right tk₂ _)
      have hlk₄ : lo ≤ s₄.toks := Nat.le_trans hlk (Nat.le_trans htk₂ (Nat.le_trans (Nat.le_add_right tk₂ _) ht₄))
      cases ok with
      | false =>
        simp only [Bool.false_eq_true, if_false] at h₄ ⊢
        obtain ⟨h₅, tk₅, rfl, F₅, N₅, hJ₅⟩ := h₄
        have zI := (N₅ (I, oI2) List.mem_cons_self).1
        have zC := (N₅ (C, oC) (List.mem_cons_of_mem _ List.mem_cons_self)).1
        exact ⟨n + 1 - (i + 1), by omega, h₅, tk₅, i + 1, ys, _, rfl, hlt, rfl, Nat.le_succ_of_le hyl, hlk₄, W.frame _ _ _ _ hst₃ hoI3 zI, F₅, hoC.ns zC, fun p hp => N₅ p (List.mem_cons_of_mem _ (List.mem_cons_of_mem _ hp)), hJ₅⟩
      | true =>
        simp only [if_true] at h₄ ⊢
        refine wpAny_tk (wpAny_mono h₄ (fun y s₅ h₅ ht₅ => ?_) fun _ _ e => e.elim)
        obtain ⟨h₄, tk₄, rfl, F₄, N₄, hJ₄⟩ := h₅
        have zI := (N₄ (I, oI2) List.mem_cons_self).1
        have zC := (N₄ (C, oC) (List.mem_cons_of_mem _ List.mem_cons_self)).1
        have zD := (N₄ (D, lst ys) (List.mem_cons_of_mem _ (List.mem_cons_of_mem _ List.mem_cons_self))).1
        refine append_at (hsz := by show ys.toArray.size ≤ sizeLine; rw [List.size_toArray]; exact Nat.le_trans hyl (Nat.le_trans hi hn)) zD fun h₅ hs₅ hD₅ => ?_
        have hoI5 : h₅.get? I = some oI2 := hs₅.extBut _ _ hID zI
        refine ⟨n + 1 - (i + 1), by omega, h₅, tk₄, i + 1, ys ++ [y], _, rfl, hlt, rfl, by rw [List.length_append, List.length_singleton]; omega, Nat.le_trans hlk₄ ht₅, W.frame _ _ _ _ hst₃ hoI3 hoI5, F₄.change hs₅ hLD' hD₀,
          (hoC.ns zC).sameBut hs₅ hCD, fun p hp => ?_, hJ₄⟩
        rcases List.mem_cons.mp hp with rfl | hp
        · exact ⟨hD₅.trans (congrArg some (lst_snoc ys y)), hLD', hD₀⟩
        · have z := N₄ p (List.mem_cons_of_mem _ (List.mem_cons_of_mem _ (List.mem_cons_of_mem _ hp)))
          exact ⟨hs₅.extBut _ _ (offD p hp) z.1, z.2⟩
    · obtain rfl : i = n := Nat.le_antisymm hi (Nat.not_lt.mp hlt)
      refine W.done _ _ _ hst' (hK _ F' fun p hp => N' p (List.mem_cons_of_mem _ hp)) fun h₂ tk₂ htk₂ hk₂ => ?_
      refine fin D C h₂ tk₂ ys m' hJ (Nat.le_trans hlk htk₂) hyl (fr_but F' hk₂ hIL hI₀) (news_but N' hk₂ fun p hp => ?_) off3.one (hn'.at' fun o e => hk₂ _ o (by simpa using Ne.symm hIC) e) hC₀ hCL (Ne.symm hCD) offC
      rcases List.mem_cons.mp hp with rfl | hp
      · exact Ne.symm hID
      · exact offI p hp
  exact codeAny_compStart_list (loop _ rfl) (W.self 0 _ _ _ hst₁ (loop _ rfl))
/-- y = [elt for x in xv if ..], the source xv at hand -/
theorem comp_use {elt iter : Expr} {ifs : List Expr} {x y : Str} {px py : Pos} {scope : Scope} {cl : List (Str × Addr)} {pos pos' : Pos} {Q : Value → Shared → Prop} {xv : Value} {n lo : Nat} {K : Heap → Prop} {P : Nat → Value → Nat → Prop} {St : Addr → Nat → Heap → Prop} {news : List (Addr × Obj)} {o0 : Obj}
    (hLe : env.locals = L) (hy : env.kindOf y = some .local) (hp : (env.scope.kind == .class || (env.scope.kind == .module && env.locals != env.globals)) = false)
    (hclos : closureFor scope env = pure cl) (hcell : ∀ y ∈ scope.names, y.2 ≠ .cell) (hkind : scope.kind = .function)
    (hnames : ∀ y ∈ scope.names, y.2 = .local → scope.names.lookup y.1 = some .local) (hx : scope.names.lookup x = some .local)
    (hs : ∀ x, foldedSetIterable iter env x = pure x)
    (J : Nat → List Value → Prop)
    (hit : ∀ Q' : Value → Shared → Prop, Q' (.ref s.heap.objs.size) { s with heap := s.heap.push o0 } → wpAny (model prog w) A (pyIter xv) Q' E s)
    (W : WalkK prog w A s.heap.objs.size n P (St s.heap.objs.size) K) (hK : ∀ h, Fr h₀ L h m → News h₀ L h news → K h) (hst : St s.heap.objs.size 0 (s.heap.push o0))
    (F : Fr h₀ L s.heap m) (N : News h₀ L s.heap news) (hn : n ≤ sizeLine) (hlo : lo ≤ s.toks) (hJ0 : J 0 [])
    (turn : ∀ i v ys I oI C oC D m₂ h t₀ t₁, i < n → P i v t₀ → lo ≤ t₀ → t₀ ≤ t₁ → J i ys → NsObj oC m₂ → m₂ x = some v → Fr h₀ L h m → News h₀ L h ((I, oI) :: (C, oC) :: (D, lst ys) :: news) → Off3 I C D news → ((@Ne Nat I C) ∧ (@Ne Nat I D) ∧ (@Ne Nat C D)) →
      wpAny (model prog w) A (forIn ifs true fun c r => if r = true then do let ok ← isTrue c (compEnvC scope cl C env) (eval c (compEnvC scope cl C env)); pure (ForInStep.yield ok) else pure (ForInStep.yield r)) (fun ok s₃ =>
        if ok = true then wpAny (model prog w) A (eval elt (compEnvC scope cl C env)) (fun y s' => ∃ h' tk', s' = { s with heap := h', toks := tk' } ∧ Fr h₀ L h' m ∧ News h₀ L h' ((I, oI) :: (C, oC) :: (D, lst ys) :: news) ∧ J (i + 1) (ys ++ [y])) (fun _ _ => False) s₃
        else ∃ h' tk', s₃ = { s with heap := h', toks := tk' } ∧ Fr h₀ L h' m ∧ News h₀ L h' ((I, oI) :: (C, oC) :: (D, lst ys) :: news) ∧ J (i + 1) ys) (fun _ _ => False) { s with heap := h, toks := t₁ })
    (fin : ∀ D h tk ys, J n ys → lo ≤ tk → ys.length ≤ n → Fr h₀ L h (fun z => if z = y then some (.ref D) else m z) → News h₀ L h ((D, lst ys) :: news) → Off1 D news → Q .none { s with heap := h, toks := tk }) :
    wpAny (model prog w) A (comprehension (.ListComp elt [⟨.Name x px, iter, ifs, 0⟩] scope pos) scope env pos' (newList []) false (pure xv) (some (assign (.Name y py) env))) Q E s := by
  subst hLe
  refine wpAny_comprehension_free (use := some (assign (.Name y py) env)) rfl hs hclos hkind hnames (wpAny_pure (hit _ ?_))
  refine comp_core hcell hkind hx J W hK hst F N hn hlo hJ0 turn ?_
  intro D C h tk ys m' hJ hlk hyl F' N' off hn' hC₀ hCL hDC offC
  show wpAny _ A (assign (.Name y py) env (.ref D)) _ _ _
  refine wpAny_assign_Name (wpAny_storeName_local hy F'.ns (fun h₂ hn₂ hs₂ => ?_) hp)
  have F₂ := F'.set hn₂ hs₂
  refine ⟨m', hn'.sameBut hs₂ hCL, fun h'' hs'' => fin D h'' _ ys hJ (Nat.le_trans hlk (Nat.le_add_right _ _)) hyl (F₂.change hs'' hCL hC₀) (fun p hp => ?_) off⟩
  have z := N' p hp
  have qC : p.1 ≠ C := by
    rcases List.mem_cons.mp hp with rfl | hp
    · exact hDC
    · exact offC p hp
  exact ⟨hs''.extBut _ _ qC ((hs₂.2 _ z.2.1).trans z.1), z.2⟩
theorem comp_use_range {elt iter : Expr} {ifs : List Expr} {x y : Str} {px py : Pos} {scope : Scope} {cl : List (Str × Addr)} {pos pos' : Pos} {Q : Value → Shared → Prop} {n : Nat} {news : List (Addr × Obj)} {r : Addr} {tr ur vr : Tok}
    (hLe : env.locals = L) (hy : env.kindOf y = some .local) (hp : (env.scope.kind == .class || (env.scope.kind == .module && env.locals != env.globals)) = false)
    (hclos : closureFor scope env = pure cl) (hcell : ∀ y ∈ scope.names, y.2 ≠ .cell) (hkind : scope.kind = .function)
    (hnames : ∀ y ∈ scope.names, y.2 = .local → scope.names.lookup y.1 = some .local) (hx : scope.names.lookup x = some .local)
    (hs : ∀ x, foldedSetIterable iter env x = pure x)
    (J : Nat → List Value → Prop) (hh : A.handled = none)
    (hr : IsRange s.heap r 0 (n : Int) 1 tr ur vr)
    (F : Fr h₀ L s.heap m) (N : News h₀ L s.heap news) (hn : n ≤ 1000000) (hJ0 : J 0 [])
    (turn : ∀ i v ys I oI C oC D m₂ h t₁, i < n → (∃ t, v = .int (i : Int) t) → J i ys → NsObj oC m₂ → m₂ x = some v → Fr h₀ L h m → News h₀ L h ((I, oI) :: (C, oC) :: (D, lst ys) :: news) → Off3 I C D news → ((@Ne Nat I C) ∧ (@Ne Nat I D) ∧ (@Ne Nat C D)) →
      wpAny (model prog w) A (forIn ifs true fun c r => if r = true then do let ok ← isTrue c (compEnvC scope cl C env) (eval c (compEnvC scope cl C env)); pure (ForInStep.yield ok) else pure (ForInStep.yield r)) (fun ok s₃ =>
        if ok = true then wpAny (model prog w) A (eval elt (compEnvC scope cl C env)) (fun y s' => ∃ h' tk', s' = { s with heap := h', toks := tk' } ∧ Fr h₀ L h' m ∧ News h₀ L h' ((I, oI) :: (C, oC) :: (D, lst ys) :: news) ∧ J (i + 1) (ys ++ [y])) (fun _ _ => False) s₃
        else ∃ h' tk', s₃ = { s with heap := h', toks := tk' } ∧ Fr h₀ L h' m ∧ News h₀ L h' ((I, oI) :: (C, oC) :: (D, lst ys) :: news) ∧ J (i + 1) ys) (fun _ _ => False) { s with heap := h, toks := t₁ })
    (fin : ∀ D h tk ys, J n ys → ys.length ≤ n → Fr h₀ L h (fun z => if z = y then some (.ref D) else m z) → News h₀ L h ((D, lst ys) :: news) → Off1 D news → Q .none { s with heap := h, toks := tk }) :
    wpAny (model prog w) A (comprehension (.ListComp elt [⟨.Name x px, iter, ifs, 0⟩] scope pos) scope env pos' (newList []) false (pure (.ref r)) (some (assign (.Name y py) env))) Q E s := by
  have hn24 : n ≤ sizeLine := by show n ≤ 2 ^ 24; omega
  refine comp_use (o0 := { cls := .type "range_iterator", data := .fields #[rawInt 0, rawInt (Builtin.Range.rangeSize 0 (n : Int) 1), rawInt 1] }) (lo := 0) (St := fun I i h => IsRangeIter h I (0 + (i : Nat) * 1) ((n : Int) - (i : Nat)) 1) hLe hy hp hclos hcell hkind hnames hx hs J (fun Q' h => wpAny_pyIter_range hr (small_up hn) h)
    (WalkK.of (WalkT.of (range_walks hh 0 n) fun i h st => ⟨_, st⟩)) (fun _ _ _ => trivial) (by show IsRangeIter _ _ _ _ _; rw [rangeSize_up]; simpa using Heap.get?_push_size _ rfl) F N hn24 (Nat.zero_le _) hJ0 ?_ (fun D h tk ys hJ _ hl F N off => fin D h tk ys hJ hl F N off)
  rintro i v ys I oI C oC D m₂ h t₀ t₁ hi ⟨t, rfl⟩ _ _ hJ hoC hm F N off ne
  exact turn i _ ys I oI C oC D m₂ h t₁ hi ⟨t, by rw [Int.zero_add]⟩ hJ hoC hm F N off ne
theorem comp_use_list {elt iter : Expr} {ifs : List Expr} {x y : Str} {px py : Pos} {scope : Scope} {cl : List (Str × Addr)} {pos pos' : Pos} {Q : Value → Shared → Prop} {news : List (Addr × Obj)} {ax : Addr} {its : Array Value}
    (hLe : env.locals = L) (hy : env.kindOf y = some .local) (hp : (env.scope.kind == .class || (env.scope.kind == .module && env.locals != env.globals)) = false)
    (hclos : closureFor scope env = pure cl) (hcell : ∀ y ∈ scope.names, y.2 ≠ .cell) (hkind : scope.kind = .function)
    (hnames : ∀ y ∈ scope.names, y.2 = .local → scope.names.lookup y.1 = some .local) (hx : scope.names.lookup x = some .local)
    (hs : ∀ x, foldedSetIterable iter env x = pure x)
    (J : Nat → List Value → Prop) (hh : A.handled = none)
    (hK : ∀ h, Fr h₀ L h m → News h₀ L h news → h.IsList ax its)
    (F : Fr h₀ L s.heap m) (N : News h₀ L s.heap news) (hn : its.size ≤ 1000000) (hJ0 : J 0 [])
    (turn : ∀ i v ys I oI C oC D m₂ h t₁, i < its.size → its[i]? = some v → J i ys → NsObj oC m₂ → m₂ x = some v → Fr h₀ L h m → News h₀ L h ((I, oI) :: (C, oC) :: (D, lst ys) :: news) → Off3 I C D news → ((@Ne Nat I C) ∧ (@Ne Nat I D) ∧ (@Ne Nat C D)) →
      wpAny (model prog w) A (forIn ifs true fun c r => if r = true then do let ok ← isTrue c (compEnvC scope cl C env) (eval c (compEnvC scope cl C env)); pure (ForInStep.yield ok) else pure (ForInStep.yield r)) (fun ok s₃ =>
        if ok = true then wpAny (model prog w) A (eval elt (compEnvC scope cl C env)) (fun y s' => ∃ h' tk', s' = { s with heap := h', toks := tk' } ∧ Fr h₀ L h' m ∧ News h₀ L h' ((I, oI) :: (C, oC) :: (D, lst ys) :: news) ∧ J (i + 1) (ys ++ [y])) (fun _ _ => False) s₃
        else ∃ h' tk', s₃ = { s with heap := h', toks := tk' } ∧ Fr h₀ L h' m ∧ News h₀ L h' ((I, oI) :: (C, oC) :: (D, lst ys) :: news) ∧ J (i + 1) ys) (fun _ _ => False) { s with heap := h, toks := t₁ })
    (fin : ∀ D h tk ys, J its.size ys → ys.length ≤ its.size → Fr h₀ L h (fun z => if z = y then some (.ref D) else m z) → News h₀ L h ((D, lst ys) :: news) → Off1 D news → Q .none { s with heap := h, toks := tk }) :
    wpAny (model prog w) A (comprehension (.ListComp elt [⟨.Name x px, iter, ifs, 0⟩] scope pos) scope env pos' (newList []) false (pure (.ref ax)) (some (assign (.Name y py) env))) Q E s := by
  have hn24 : its.size ≤ sizeLine := by show its.size ≤ 2 ^ 24; omega
  refine comp_use (o0 := { cls := .type "list_iterator", data := .fields #[.ref ax, .int 0 0] }) (lo := 0) (St := fun I i h => h.IsListIter I ax i) hLe hy hp hclos hcell hkind hnames hx hs J (fun Q' h => wpAny_pyIter_list (hK _ F N) h)
    (WalkK.list hh _ ax its) hK ⟨_, Heap.get?_push_size _ rfl, rfl, rfl⟩ F N hn24 (Nat.zero_le _) hJ0 ?_ (fun D h tk ys hJ _ hl F N off => fin D h tk ys hJ hl F N off)
  intro i v ys I oI C oC D m₂ h t₀ t₁ hi hP _ _ hJ hoC hm F N off ne
  exact turn i v ys I oI C oC D m₂ h t₁ hi hP hJ hoC hm F N off ne
theorem exec_Assign_comp {elt iter : Expr} {ifs : List Expr} {x y : Str} {px py : Pos} {scope : Scope} {pos spos : Pos} {Q : Flow → Shared → Prop}
    (hsw : swapsWith (.ListComp elt [⟨.Name x px, iter, ifs, 0⟩] scope pos) (some (.Name y py)) spos.line env = pure true)
    (h : wpAny (model prog w) A (eval iter env) (fun xv s₁ => wpAny (model prog w) A (comprehension (.ListComp elt [⟨.Name x px, iter, ifs, 0⟩] scope pos) scope env (firstIterPos [⟨.Name x px, iter, ifs, 0⟩] pos) (newList []) false (pure xv) (some (assign (.Name y py) env))) (fun _ s' => Q .next s') E s₁) E s) :
    wpAny (model prog w) A (exec (.Assign [.Name y py] (.ListComp elt [⟨.Name x px, iter, ifs, 0⟩] scope pos) spos) env) Q E s := by
  rw [exec_Assign_Name_used _ _ _ _ hsw]
  refine wpAny_bind (wpAny_standAt (wpAny_bind ?_))
  show wpAny _ A (do let _ ← comprehension (.ListComp elt [⟨.Name x px, iter, ifs, 0⟩] scope pos) scope env _ (newList []) false (eval iter env) (some (assign (.Name y py) env))) _ _ s
  refine wpAny_bind (wpAny_mono (Q := fun _ s' => Q .next s') (E := E) ?_ (fun _ s' hq => wpAny_pure (wpAny_pure hq)) fun _ _ e => e)
  exact wpAny_bind (f := fun xv => comprehension (.ListComp elt [⟨.Name x px, iter, ifs, 0⟩] scope pos) scope env (firstIterPos [⟨.Name x px, iter, ifs, 0⟩] pos) (newList []) false (pure xv) (some (assign (.Name y py) env))) h
end
end Mine

/-! CopL -/
namespace Mine
open PySem PySem.W PyProof.Rows PySem.Calls PySem.Spec
set_option maxRecDepth 100000
example : True := by (w_top off); trivial
/-! ## what _law_copied reckons -/
def aheadL (ls : List Nat) (i : Nat) : Nat → List Nat := fun n => (List.range n).filter fun j => ls.getD j 0 == ls.getD i 0
def nextRow (ls : List Nat) (i : Nat) (rows : List (List Nat)) : List Nat :=
  if aheadL ls i i = [] then rows.getD i [] ++ [ls.getD i 0] ++ rows.getD i []
  else rows.getD i [] ++ (rows.getD i []).drop (rows.getD ((aheadL ls i i).getLastD 0) []).length
def rowsL (ls : List Nat) : Nat → List (List Nat)
  | 0 => [[]]
  | i + 1 => rowsL ls i ++ [nextRow ls i (rowsL ls i)]
def pairL (pp : List Nat) (one : Nat) : List Nat := four.getD one 0 :: (if pp.getD one 0 = one then [] else [four.getD (pp.getD one 0) 0])
def toldL (pp ls : List Nat) (i : Nat) : List Nat := ((rowsL ls i).getD i []).flatMap (pairL pp)
def RowsAre (robs : List (Addr × Obj)) (Rs : List (List Nat)) : Prop :=
  robs.length = Rs.length ∧ ∀ k p, robs[k]? = some p → ∃ vs n, p.2 = listOf (List.toArray vs) n ∧ IntsAre vs ((Rs.getD k []).map Int.ofNat)
theorem rowsL_length (ls : List Nat) : ∀ i, (rowsL ls i).length = i + 1
  | 0 => rfl
  | i + 1 => by rw [rowsL, List.length_append, rowsL_length ls i]; rfl
theorem rowsL_stable (ls : List Nat) {k : Nat} : ∀ {i : Nat}, k ≤ i → (rowsL ls i).getD k [] = (rowsL ls k).getD k []
  | 0, h => by rw [Nat.le_zero.mp h]
  | i + 1, h => by
    rcases Nat.lt_or_eq_of_le h with q | q
    · have hk : k < (rowsL ls i).length := by rw [rowsL_length]; exact q
      rw [rowsL, List.getD_eq_getElem?_getD, List.getElem?_append_left hk, ← List.getD_eq_getElem?_getD]
      exact rowsL_stable ls (Nat.le_of_lt_succ q)
    · rw [q]
theorem rowsL_next (ls : List Nat) (i : Nat) : (rowsL ls (i + 1)).getD (i + 1) [] = nextRow ls i (rowsL ls i) := by
  rw [rowsL, List.getD_eq_getElem?_getD, List.getElem?_append_right (by rw [rowsL_length]; exact Nat.le_refl _), rowsL_length, Nat.sub_self]
  rfl
theorem pair_same {pp : List Nat} {one : Nat} (h : pp.getD one 0 = one) : (⟨(pairL pp one).toArray⟩ : Str) = sg (four.getD one 0) ++ Str.ofString "" := by
  unfold pairL
  rw [if_pos h]
  apply str_ext
  rw [Str.cps_append, Array.toList_append]
  simp [sg]
  rfl
theorem pair_other {pp : List Nat} {one : Nat} (h : pp.getD one 0 ≠ one) : (⟨(pairL pp one).toArray⟩ : Str) = sg (four.getD one 0) ++ sg (four.getD (pp.getD one 0) 0) := by
  unfold pairL
  rw [if_neg h]
  apply str_ext
  rw [Str.cps_append, Array.toList_append]
  simp [sg]
theorem pair_len (pp : List Nat) (one : Nat) : (⟨(pairL pp one).toArray⟩ : Str).length ≤ 2 := by
  show (pairL pp one).toArray.size ≤ 2
  rw [List.size_toArray]
  unfold pairL
  split
  · exact Nat.le_succ _
  · exact Nat.le_refl _
theorem told_join (pp l : List Nat) : Txt.join (Str.ofString "") (l.map fun one => (⟨(pairL pp one).toArray⟩ : Str)) = ⟨(l.flatMap (pairL pp)).toArray⟩ := by
  apply str_ext
  rw [join_flat, List.flatMap_map]
theorem row_small {ls : List Nat} (hl4 : ∀ x ∈ ls, x < 4) : ∀ i, i ≤ ls.length → ∀ x ∈ (rowsL ls i).getD i [], x < 4
  | 0, _, x, hx => by cases hx
  | i + 1, hi, x, hx => by
    have ih := row_small hl4 i (by omega)
    rw [rowsL_next] at hx
    unfold nextRow at hx
    split at hx
    · rcases List.mem_append.mp hx with hx | hx
      · rcases List.mem_append.mp hx with hx | hx
        · exact ih x hx
        · rw [List.mem_singleton.mp hx, List.getD_eq_getElem?_getD, List.getElem?_eq_getElem (by omega)]
          exact hl4 _ (List.getElem_mem _)
      · exact ih x hx
    · rcases List.mem_append.mp hx with hx | hx
      · exact ih x hx
      · exact ih x (List.mem_of_mem_drop hx)
theorem rowsAre_snoc {robs : List (Addr × Obj)} {ls : List Nat} {i n : Nat} {r : Addr} {vs : List Value} (h : RowsAre robs (rowsL ls i)) (hv : IntsAre vs ((nextRow ls i (rowsL ls i)).map Int.ofNat)) :
    RowsAre (robs ++ [(r, listOf vs.toArray n)]) (rowsL ls (i + 1)) := by
  obtain ⟨hlen, hat⟩ := h
  refine ⟨by rw [List.length_append, rowsL, List.length_append, hlen]; rfl, fun k p hp => ?_⟩
  rcases Nat.lt_or_ge k robs.length with q | q
  · rw [List.getElem?_append_left q] at hp
    obtain ⟨ws, m, e, hw⟩ := hat k p hp
    refine ⟨ws, m, e, ?_⟩
    rw [rowsL, List.getD_eq_getElem?_getD, List.getElem?_append_left (by rw [← hlen]; exact q), ← List.getD_eq_getElem?_getD]
    exact hw
  · rw [List.getElem?_append_right q] at hp
    have e0 : k - robs.length = 0 := by
      rcases Nat.eq_zero_or_pos (k - robs.length) with z | z
      · exact z
      · rw [List.getElem?_eq_none (by simp; omega)] at hp; cases hp
    rw [e0] at hp
    cases hp
    have ek : k = i + 1 := by rw [hlen, rowsL_length] at e0 q; omega
    refine ⟨vs, n, rfl, ?_⟩
    rw [ek, rowsL_next]
    exact hv
end Mine

/-! Cop -/
namespace Mine
open PySem PySem.W PyProof.Rows PySem.Calls PySem.Spec
set_option maxRecDepth 100000
set_option maxHeartbeats 8000000
set_option pp.maxSteps 20000
set_option pp.deepTerms false
set_option pp.deepTerms.threshold 6
example : True := by (w_top off); trivial
/-! ## _law_copied -/
local macro_rules | `(tactic| walk_at "call ref") => `(tactic| (refine wpAny_halt ?_))
local macro_rules | `(tactic| walk_at "call type:enumerate") => `(tactic| (refine wpAny_halt ?_))
local macro_rules | `(tactic| walk_at "call builtin:len") => `(tactic| (refine wpAny_halt ?_))
local macro_rules | `(tactic| walk_at "subscriptTail Name Slice ref ref") => `(tactic| (refine wpAny_halt ?_))
theorem news_cell {h₀ h h' : Heap} {L c : Addr} {news news' : List (Addr × Obj)} {o' : Obj} (N : News h₀ L h news) (hs : Heap.SameBut c h h') (hc : h'.get? c = some o') (hL : c ≠ L) (h0 : h₀.get? c = none)
    (sub : ∀ p ∈ news', p = (c, o') ∨ (p ∈ news ∧ p.1 ≠ c)) : News h₀ L h' news' := fun p hp => by
  rcases sub p hp with rfl | ⟨hp, hn⟩
  · exact ⟨hc, hL, h0⟩
  · have z := N p hp
    exact ⟨hs.extBut _ _ hn z.1, z.2⟩
theorem cop_spec {prog : Program} (w : World) {mean : ExcName → Option Value} {mg mb : Str → Option Value} (dp un : Nat) (gd : Option (List Code)) (cn : Str) (cs : Scope) (a : Addr) (ccd : Value) (cl : List (Str × Addr)) (outer : List Env) (A₀ : Around) (base h₀ : Heap) (L : Addr) (m : Str → Option Value)
    (news : List (Addr × Obj)) (s : Shared) (la : Addr) (lvs : List Value) (ls : List Nat) (pl : Addr) (pvs : List Value) (Q E : Value → Shared → Prop)
    (B : Below A₀ base outer h₀) (F : Fr h₀ L s.heap m) (X : (hd.heap_39 w.params).In h₀) (N : News h₀ L s.heap news) (T : Top hd.view_39 (looseW hd.view_39 []) mean mg mb h₀) (hk : cs.kind = .function)
    (hdp : dp + 3 < recursionLimit) (hu : un + 24 < cLine) (pp : List Nat) (hp : s.heap.IsList pl pvs.toArray) (hpi : IntsAre pvs (pp.map Int.ofNat)) (hpn : pp.length = 4) (hp4 : ∀ x ∈ pp, x < 4)
    (hls : s.heap.IsList la lvs.toArray) (hli : IntsAre lvs (ls.map Int.ofNat)) (hl4 : ∀ x ∈ ls, x < 4) (hln : ls.length ≤ 16) (hrl : ∀ i, i ≤ ls.length → ((rowsL ls i).getD i []).length ≤ 100)
    (ret : ∀ D ys n h' tk', StrsAre ys ((List.range (ls.length + 1)).map fun i => ⟨(toldL pp ls i).toArray⟩) → Fr h₀ L h' m → News h₀ L h' ((D, listOf ys.toArray n) :: news) → Q (.ref D) { s with heap := h', toks := tk' }) :
    wpAny (model prog w) (ktrTop dp un gd cn cs L a ccd cl outer) (call (.ref 80) [.ref la, .ref pl]) Q E s := by
  refine wpAny_call ?_
  (refine' enterA_cells ?k1 ?k2 ?k3 ?k4 ?k5 ?kA ?kF ?kK ?k6 ?k7 ?k8 ?k9 ?kB ?kD ?_ ?c2 ?c3 ?c4; (case kA => exact rfl); (case kF => exact rfl); (case kK => assumption); (case k1 => k_asm); (case k2 => k_asm); (case k3 => k_asm); (case k4 => k_asm); (case k5 => k_asm); (case k6 => k_is); (case k7 => k_is); (case k8 => ktr_room); (case k9 => exact BindsTo.of_eq rfl); (case kB => exact rfl); (case kD => decide +kernel); (case c2 => exact rfl); (case c3 => exact rfl); (case c4 => exact rfl); k_whole; intro L' h' tk' cells' F' N' Y' B' X' T'; k_cells Y'; (try dsimp only))
  rename_i oc o2 o3 dc d2 d3
  change oc.data = .cell none at dc
  change o2.data = .cell (some (.ref pl)) at d2
  change o3.data = .cell (some (.ref la)) at d3
  refine wpAny_execs_cons (wpAny_stop ?_)
  k_steps
  rename_i r0 _ l1 rw0 _ l2 td _ l3 D1 _ l4 _ _ h1 F1 N1
  show wpAny _ _ _ _ _ _
  dsimp only at F1 N1 ⊢
  replace N1 : News s.heap L' h1 [(L' + 1 + 1 + 1, oc), (rw0, listOf #[.ref r0] 0), (td, listOf #[.str "" tk'] 0), (L' + 1 + 1, o2), (L' + 1, o3), (r0, listOf #[] 0)] := fun p hp => N1 p (by simp only [List.mem_cons, List.not_mem_nil, or_false] at hp ⊢; rcases hp with h | h | h | h | h | h <;> simp [h])
  replace F1 := frKnown F1 [("rows", .ref rw0), ("told", .ref td)] (by intro p hp; simp only [List.mem_cons, List.not_mem_nil, or_false] at hp; rcases hp with rfl | rfl <;> rfl)
  refine wpAny_execs_cons (wpAny_For (wpAny_stop ?_))
  k_steps
  show wpAny _ _ _ _ _ _
  have hLL : ∀ b, h1.get? b = none → L' ≠ b := fun b hb q => by
    obtain ⟨o, _, _, ho, _⟩ := F1.ns
    rw [q, hb] at ho; cases ho
  have lo0 : ∀ b, h1.get? b = none → s.heap.get? b = none := fun b hb => by
    cases q : s.heap.get? b with
    | none => rfl
    | some o => rw [F1.keep b o q] at hb; cases hb
  have new0 : ∀ b, h1.objs.size ≤ b → h1.get? b = none := fun b hb => by
    cases e : h1.get? b with
    | none => rfl
    | some o => exact absurd (Heap.lt_size e) (Nat.not_lt.mpr hb)
  refine call_enumerate_list (F1.lst hls) fun h2 he2 hi2 hsz2 up2 => ?_
  have F2 := F1.keeps up2
  have N2 := N1.grown up2
  show wpAny _ _ _ _ _ _
  refine wpAny_pyIter_enum he2 ?_
  have hlsz : lvs.toArray.size = ls.length := by rw [List.size_toArray, hli.length, List.length_map]
  refine for_enumA (fun i m₁ nx => m₁ "rows" = some (.ref rw0) ∧ m₁ "told" = some (.ref td) ∧ ∃ occ rs n1 ys n2 robs, nx = (L' + 1 + 1 + 1, occ) :: (rw0, listOf (List.toArray rs) n1) :: (td, listOf (List.toArray ys) n2) :: (L' + 1 + 1, o2) :: (L' + 1, o3) :: robs ∧ (∃ v, occ.data = .cell v) ∧
      rs = robs.map (fun p => Value.ref p.1) ∧ RowsAre robs (rowsL ls i) ∧ StrsAre ys ((List.range (i + 1)).map fun i => ⟨(toldL pp ls i).toArray⟩) ∧ (∀ p ∈ robs, p.1 ≠ L' + 1 + 1 + 1 ∧ p.1 ≠ rw0 ∧ p.1 ≠ td))
    rfl hls (Nat.succ_ne_self _) (hLL _ (new0 _ (Nat.le_succ _))) (hLL _ (new0 _ (Nat.le_refl _))) (lo0 _ (new0 _ (Nat.le_succ _))) (lo0 _ (new0 _ (Nat.le_refl _))) (fun p hp => ?_) he2 hi2 F2 N2
    ⟨rfl, rfl, oc, _, _, _, _, [(r0, listOf #[] 0)], rfl, ⟨_, dc⟩, rfl, ⟨rfl, fun k p hp => ?_⟩, .cons _ _ .nil, fun p hp => ?_⟩ ?turn ?done
  · have z := Heap.lt_size (N1 p hp).1
    exact ⟨Nat.ne_of_lt (Nat.lt_succ_of_lt z), Nat.ne_of_lt z⟩
  · cases k with
    | zero => cases hp; exact ⟨[], 0, rfl, .nil⟩
    | succ k => cases hp
  · rw [List.mem_singleton.mp hp]; exact ⟨Nat.ne_of_gt l1.1, Nat.ne_of_lt l2.1, Nat.ne_of_lt l3.2.1⟩
  case done =>
    rintro m₁ nx h3 tk3 ⟨mr, mt, occ, rs, n1, ys, n2, robs, rfl, ⟨cv, docc⟩, rfl, _, hys, hoff⟩ F3 N3
    replace F3 := frKnown F3 [("told", .ref td)] (by intro p hp; simp only [List.mem_cons, List.not_mem_nil, or_false] at hp; rcases hp with rfl; exact mt)
    clear F1 N1 F2 N2 he2 hi2 hsz2 up2
    show wpAny _ _ _ _ _ _
    refine wpAny_stop ?_
    k_steps
    have hz := N3 (td, listOf ys.toArray n2) (by simp)
    rw [hlsz] at hys
    refine ⟨L', _, F3, fun FB NB => ret td ys n2 _ _ hys FB (fun (p : Addr × Obj) hp => ?_)⟩
    rcases List.mem_cons.mp hp with rfl | hp
    · refine ⟨hz.1, fun q => ?_, ?_⟩
      · obtain ⟨o, _, _, ho, _⟩ := F.ns
        have : s.heap.get? td = some o := by rw [← ho]; exact congrArg _ q
        rw [hz.2.2] at this; cases this
      · cases q : h₀.get? td with
        | none => rfl
        | some o => have := F.keep td o q; rw [hz.2.2] at this; cases this
    · exact NB p hp
  case turn =>
    rintro i u v m₁ nx oe oi h3 tk3 hv ⟨mr, mt, occ, rs, n1, ys, n2, robs, rfl, ⟨cv, docc⟩, rfl, ⟨hrl1, hrows⟩, hys, hoff⟩ off3 F3 N3
    clear F1 N1 F2 N2 he2 hi2 hsz2 up2 new0 lo0 hLL l4
    generalize h1.objs.size + 1 = e at *
    generalize h1.objs.size = it at *
    dsimp only
    have hi : i < ls.length := by
      rcases Nat.lt_or_ge i lvs.length with q | q
      · rw [← hlsz, List.size_toArray]; exact q
      · rw [List.getElem?_toArray, List.getElem?_eq_none q] at hv; cases hv
    obtain ⟨tl, hvl⟩ := ints_at hli hi
    rw [List.getElem?_toArray] at hv
    rw [hv] at hvl
    cases hvl
    replace F3 := frKnown F3 [("rows", .ref rw0), ("told", .ref td)] (by intro p hp; simp only [List.mem_cons, List.not_mem_nil, or_false] at hp; rcases hp with rfl | rfl <;> assumption)
    clear mr mt
    refine wpAny_stop ?_
    k_steps
    rename Fr s.heap _ _ _ => F4
    rename News s.heap _ _ _ => N4
    show wpAny _ _ _ _ _ _
    have zc := N4 (L' + 1 + 1 + 1, occ) (by simp)
    refine wpAny_storeName_cell rfl rfl (c := L' + 1 + 1 + 1) rfl ⟨occ, zc.1, docc⟩ fun h5 hv5 hs5 => ?_
    obtain ⟨occ', hoc', hdc'⟩ := hv5
    have o3c := off3 (L' + 1 + 1 + 1, occ) (by simp)
    have F5 := F4.change hs5 zc.2.1 zc.2.2
    have N5 : News s.heap L' h5 ((e, oe) :: (it, oi) :: (L' + 1 + 1 + 1, occ') :: (rw0, listOf (robs.map fun p => Value.ref p.1).toArray n1) :: (td, listOf ys.toArray n2) :: (L' + 1 + 1, o2) :: (L' + 1, o3) :: robs) := by
      refine news_cell N4 hs5 hoc' zc.2.1 zc.2.2 fun p hp => ?_
      rcases List.mem_cons.mp hp with rfl | hp
      · exact .inr ⟨by simp, Ne.symm o3c.1⟩
      rcases List.mem_cons.mp hp with rfl | hp
      · exact .inr ⟨by simp, Ne.symm o3c.2⟩
      rcases List.mem_cons.mp hp with rfl | hp
      · exact .inl rfl
      rcases List.mem_cons.mp hp with rfl | hp
      · exact .inr ⟨by simp, Nat.ne_of_gt l2.2.1⟩
      rcases List.mem_cons.mp hp with rfl | hp
      · exact .inr ⟨by simp, Nat.ne_of_gt l3.2.2.1⟩
      rcases List.mem_cons.mp hp with rfl | hp
      · exact .inr ⟨by simp, Nat.ne_of_lt (Nat.lt_succ_self _)⟩
      rcases List.mem_cons.mp hp with rfl | hp
      · exact .inr ⟨by simp, Nat.ne_of_lt (Nat.lt_succ_of_lt (Nat.lt_succ_self _))⟩
      · exact .inr ⟨by simp [hp], (hoff p hp).1⟩
    clear F4 N4 hs5 hoc' zc docc F3 N3
    dsimp only at F5 N5 ⊢
    obtain ⟨pr, hpr⟩ : ∃ p, robs[i]? = some p := ⟨_, List.getElem?_eq_getElem (by rw [hrl1, rowsL_length]; exact Nat.lt_succ_self i)⟩
    obtain ⟨rvs, rn, hro, hri⟩ := hrows i pr hpr
    replace F5 := frKnown F5 [("place", .int i u), ("rows", .ref rw0), ("told", .ref td)] (by intro p hp; simp only [List.mem_cons, List.not_mem_nil, or_false] at hp; rcases hp with rfl | rfl | rfl <;> rfl)
    have hpm : pr ∈ robs := List.mem_of_getElem? hpr
    obtain ⟨ra, ro⟩ := pr
    subst hro
    have ora := hoff _ hpm
    dsimp only at ora
    refine wpAny_execs_cons (wpAny_stop ?_)
    k_steps
    rename Fr s.heap _ _ _ => F6
    rename News s.heap _ _ _ => N6
    refine item_list (isList_of (r := rw0) (its := (robs.map fun p => Value.ref p.1).toArray) (n := n1) N6 (by simp)) (Int.natCast_nonneg _) (by show (i : Int) < 2 ^ 63; omega) (x := .ref ra) (by rw [Int.toNat_natCast, List.getElem?_toArray, List.getElem?_map, hpr]; rfl) ?_
    k_steps
    rename Fr s.heap _ _ _ => F7
    rename News s.heap _ _ _ => N7
    show wpAny _ _ _ _ _ _
    dsimp only at F7 N7 ⊢
    replace F7 := frKnown F7 [("row", .ref ra), ("place", .int i u), ("rows", .ref rw0), ("told", .ref td)] (by intro p hp; simp only [List.mem_cons, List.not_mem_nil, or_false] at hp; rcases hp with rfl | rfl | rfl | rfl <;> rfl)
    refine wpAny_execs_cons (exec_Assign_comp (by with_unfolding_all rfl) (wpAny_stop ?_))
    k_steps
    rename IsRange _ _ _ _ _ _ _ _ => R8
    rename Fr s.heap _ _ _ => F8
    rename News s.heap _ _ _ => N8
    show wpAny _ _ _ _ _ _
    refine comp_use_range rfl rfl rfl (by with_unfolding_all rfl) (by decide) (by rfl) (by decide) (by rfl) (by intro _; with_unfolding_all rfl) (fun k ys => IntsAre ys (((List.range k).filter fun j => ls.getD j 0 == ls.getD i 0).map Int.ofNat)) rfl R8 F8 N8 (by omega) .nil ?turnA ?finA
    case turnA =>
      rintro k v vs I oI C oC D m₂ h9 tk9 hk ⟨tq, rfl⟩ hJ hoC hm F9 N9 off ne
      simp only [LCg.Off3, and_true] at off
      refine wpAny_tests_one (wpAny_stop ?_)
      k_steps
      have etest : ((ls.map Int.ofNat).getD (k : Int).toNat 0 == ((ls.getD i 0 : Nat) : Int)) = (ls.getD k 0 == ls.getD i 0) := by
        have hk' : k < ls.length := by omega
        have e1 : ls[k]? = some ls[k] := List.getElem?_eq_getElem hk'
        simp only [Int.toNat_natCast, List.getD_eq_getElem?_getD, List.getElem?_map, e1, Option.map_some, Option.getD_some]
        generalize ls[k] = x
        generalize ls[i]?.getD 0 = y
        by_cases q : x = y
        · subst q; simp
        · have : ((x : Int) ≠ (y : Int)) := by omega
          rw [beq_eq_false_iff_ne.mpr q]
          exact beq_eq_false_iff_ne.mpr this
      rw [etest]
      have hrg : (List.range (k + 1)).filter (fun j => ls.getD j 0 == ls.getD i 0) = (List.range k).filter (fun j => ls.getD j 0 == ls.getD i 0) ++ (if (ls.getD k 0 == ls.getD i 0) = true then [k] else []) := by
        rw [List.range_succ, List.filter_append]
        congr 1
        by_cases q : (ls.getD k 0 == ls.getD i 0) = true
        · rw [if_pos q, List.filter_cons_of_pos (by exact q)]; rfl
        · rw [if_neg q, List.filter_cons_of_neg (by exact q)]; rfl
      show (if _ then _ else _)
      by_cases q : (ls.getD k 0 == ls.getD i 0) = true
      · rw [if_pos q]
        refine wpAny_stop ?_
        k_steps
        refine ⟨_, _, rfl, by assumption, by assumption, ?_⟩
        rw [hrg, if_pos q, List.map_append]
        exact hJ.append (.cons _ _ .nil)
      · rw [if_neg q]
        refine ⟨_, _, rfl, by assumption, by assumption, ?_⟩
        rw [hrg, if_neg q, List.append_nil]
        exact hJ
    case finA =>
      intro D h9 tk9 vs hJ hvl F9 N9 off
      clear off F8 N8 R8
      replace F9 := frKnown F9 [("ahead", .ref D), ("row", .ref ra), ("place", .int i u), ("rows", .ref rw0), ("told", .ref td)] (by intro p hp; simp only [List.mem_cons, List.not_mem_nil, or_false] at hp; rcases hp with rfl | rfl | rfl | rfl | rfl <;> rfl)
      dsimp only at F9 N9 ⊢
      have hrl2 : ((rowsL ls i).getD i []).length ≤ 100 := hrl i (by omega)
      refine wpAny_execs_cons (wpAny_mono (Q := fun f s' => f = .next ∧ ∃ h' tk rn' vs' nn m', s' = { s with heap := h', toks := tk } ∧ Fr s.heap L' h' m' ∧ News s.heap L' h' ((rn', listOf (List.toArray vs') nn) :: (e, oe) :: (it, oi) :: (L' + 1 + 1 + 1, occ') :: (rw0, listOf (robs.map fun p => Value.ref p.1).toArray n1) :: (td, listOf ys.toArray n2) :: (L' + 1 + 1, o2) :: (L' + 1, o3) :: robs) ∧
        IntsAre vs' ((nextRow ls i (rowsL ls i)).map Int.ofNat) ∧ (rn' ≠ e ∧ rn' ≠ it ∧ rn' ≠ L' + 1 + 1 + 1 ∧ rn' ≠ rw0 ∧ rn' ≠ td) ∧ m' "rows" = some (.ref rw0) ∧ m' "told" = some (.ref td) ∧ m' "row" = some (.ref rn')) (wpAny_stop ?ifA) ?ifB fun _ _ x => x)
      case ifB =>
        rintro f s' ⟨rfl, h15, tk15, rn', vs', nn, m15, rfl, F15, N15, hvs', ⟨ne1, ne2, ne3, ne4, ne5⟩, mr, mt, mro⟩
        clear F9 N9 hJ hvl
        replace F15 := frKnown F15 [("rows", .ref rw0), ("told", .ref td), ("row", .ref rn')] (by intro p hp; simp only [List.mem_cons, List.not_mem_nil, or_false] at hp; rcases hp with rfl | rfl | rfl <;> assumption)
        clear mr mt mro
        show wpAny _ _ _ _ _ _
        try dsimp only at F15 N15
        refine wpAny_execs_cons (wpAny_stop ?_)
        k_steps
        have zr := N15 (rw0, listOf (robs.map fun p => Value.ref p.1).toArray n1) (by simp)
        have offe := off3 (rw0, listOf (robs.map fun p => Value.ref p.1).toArray n1) (by simp)
        refine append_at (n := n1) zr.1 (fun h16 hs16 hD16 => ?_) (hsz := by rw [List.size_toArray, List.length_map, hrl1, rowsL_length]; show i + 1 ≤ 2 ^ 24; omega)
        try dsimp only at hs16 hD16 offe
        rw [List.push_toArray] at hD16
        have F16 := F15.change hs16 zr.2.1 zr.2.2
        have N16 : News s.heap L' h16 ((rn', listOf (List.toArray vs') nn) :: (e, oe) :: (it, oi) :: (L' + 1 + 1 + 1, occ') :: (rw0, listOf ((robs.map fun p => Value.ref p.1) ++ [Value.ref rn']).toArray (n1 + 1)) :: (td, listOf ys.toArray n2) :: (L' + 1 + 1, o2) :: (L' + 1, o3) :: robs) := by
          refine news_cell N15 hs16 hD16 zr.2.1 zr.2.2 fun p hp => ?_
          rcases List.mem_cons.mp hp with rfl | hp
          · exact .inr ⟨by simp, ne4⟩
          rcases List.mem_cons.mp hp with rfl | hp
          · exact .inr ⟨by simp, Ne.symm offe.1⟩
          rcases List.mem_cons.mp hp with rfl | hp
          · exact .inr ⟨by simp, Ne.symm offe.2⟩
          rcases List.mem_cons.mp hp with rfl | hp
          · exact .inr ⟨by simp, Nat.ne_of_lt l2.2.1⟩
          rcases List.mem_cons.mp hp with rfl | hp
          · exact .inl rfl
          rcases List.mem_cons.mp hp with rfl | hp
          · exact .inr ⟨by simp, Nat.ne_of_gt l3.1⟩
          rcases List.mem_cons.mp hp with rfl | hp
          · exact .inr ⟨by simp, Nat.ne_of_lt l2.2.2.1⟩
          rcases List.mem_cons.mp hp with rfl | hp
          · exact .inr ⟨by simp, Nat.ne_of_lt l2.2.2.2⟩
          · exact .inr ⟨by simp [hp], (hoff p hp).2.1⟩
        clear F15 N15 hs16 hD16 zr
        have hnl : (nextRow ls i (rowsL ls i)).length ≤ 100 := by rw [← rowsL_next]; exact hrl (i + 1) (by omega)
        have hns : ∀ x ∈ nextRow ls i (rowsL ls i), x < 4 := by rw [← rowsL_next]; exact row_small hl4 (i + 1) (by omega)
        have hrows2 := rowsAre_snoc (n := nn) (r := rn') ⟨hrl1, hrows⟩ hvs'
        have htold : toldL pp ls (i + 1) = (nextRow ls i (rowsL ls i)).flatMap (pairL pp) := by unfold toldL; rw [rowsL_next]
        generalize nextRow ls i (rowsL ls i) = nx at *
        have hvl' : vs'.length = nx.length := by rw [hvs'.length, List.length_map]
        clear hrows hri hpr hpm ora hrl2
        k_steps
        refine wpAny_execs_cons (exec_Assign_comp (by with_unfolding_all rfl) (wpAny_stop ?_))
        k_steps
        rename Fr s.heap _ _ _ => F17
        rename News s.heap _ _ _ => N17
        show wpAny _ _ _ _ _ _
        refine comp_use_list (its := vs'.toArray) rfl rfl rfl (by with_unfolding_all rfl) (by decide) (by rfl) (by decide) (by rfl) (by intro _; with_unfolding_all rfl) (fun k ys => StrsAre ys ((nx.take k).map fun one => ⟨(pairL pp one).toArray⟩)) rfl (fun h F N => isList_of (r := rn') (n := nn) N (by simp)) F17 N17 (by rw [List.size_toArray]; omega) .nil ?turnP ?finP
        case turnP =>
          rintro k v qs I oI C oC D2 m₂ h18 tk18 hk hv hJ2 hoC hm F18 N18 off18 ne18
          simp only [LCg.Off3, and_true] at off18
          have hk' : k < nx.length := by rw [← hvl']; rw [List.size_toArray] at hk; exact hk
          obtain ⟨to, hvo⟩ := ints_at hvs' hk'
          rw [List.getElem?_toArray, hvo] at hv
          cases hv
          have hpk : nx[k]? = some (nx.getD k 0) := by rw [List.getD_eq_getElem?_getD, List.getElem?_eq_getElem hk']; rfl
          have one4 : nx.getD k 0 < 4 := hns _ (List.mem_of_getElem? hpk)
          generalize nx.getD k 0 = one at *
          obtain ⟨tp, hpg⟩ := ints_at hpi (k := one) (by rw [hpn]; exact one4)
          have hlt4 : pp.getD one 0 < 4 := by
            rw [List.getD_eq_getElem?_getD, List.getElem?_eq_getElem (by rw [hpn]; exact one4)]
            exact hp4 _ (List.getElem_mem _)
          have hL18 := F18.lst hp
          clear F17 N17
          have epp : (List.map Int.ofNat pp).getD ((one : Nat) : Int).toNat 0 = ((pp.getD one 0 : Nat) : Int) := by
            rw [Int.toNat_natCast, List.getD_eq_getElem?_getD, List.getElem?_map, List.getElem?_eq_getElem (by rw [hpn]; exact one4), List.getD_eq_getElem?_getD, List.getElem?_eq_getElem (by rw [hpn]; exact one4)]
            rfl
          have etk : (nx.take (k + 1)).map (fun one => (⟨(pairL pp one).toArray⟩ : Str)) = (nx.take k).map (fun one => (⟨(pairL pp one).toArray⟩ : Str)) ++ [⟨(pairL pp one).toArray⟩] := by
            rw [List.take_succ, hpk, List.map_append]; rfl
          refine wpAny_pure ?_
          simp only [if_true]
          refine wpAny_stop ?_
          k_steps
          · rename _ = ((one : Nat) : Int) => hq
            rw [epp] at hq
            refine ⟨_, _, rfl, by assumption, by assumption, ?_⟩
            rw [etk, item_four one4, pair_same (by omega)]
            exact hJ2.append' (.cons _ _ .nil)
          · rename _ ≠ ((one : Nat) : Int) => hq
            rw [epp] at hq ⊢
            k_steps
            refine ⟨_, _, rfl, by assumption, by assumption, ?_⟩
            rw [etk, item_four one4, item_four hlt4, pair_other (by omega)]
            exact hJ2.append' (.cons _ _ .nil)
        case finP =>
          intro D2 h18 tk18 ps hJ2 hpl F18 N18 off18
          simp only [LCg.Off1, and_true] at off18
          clear F17 N17
          rw [List.size_toArray, hvl', List.take_length] at hJ2
          refine wpAny_stop ?_
          k_steps
          refine join_madeW (l := nx) (g := fun one => ⟨(pairL pp one).toArray⟩) 2 (isList_of (r := D2) (its := ps.toArray) (n := ps.length) N18 (by simp)) (by simpa using hJ2.carried) (fun one _ => pair_len pp one) (by omega) (by decide) ?_
          intro t19 tk19
          rw [told_join, ← htold]
          k_steps
          have zt := N18 (td, listOf ys.toArray n2) (by simp)
          have hyl : ys.length = i + 1 := by rw [StrsAre.len_eq hys, List.length_map, List.length_range]
          refine append_at (n := n2) zt.1 (fun h20 hs20 hD20 => ?_) (hsz := by rw [List.size_toArray, hyl]; show i + 1 ≤ 2 ^ 24; omega)
          rw [List.push_toArray] at hD20
          try dsimp only at hs20 hD20
          have F20 := F18.change hs20 zt.2.1 zt.2.2
          have N20 : News s.heap L' h20 ((rn', listOf (List.toArray vs') nn) :: (e, oe) :: (it, oi) :: (L' + 1 + 1 + 1, occ') :: (rw0, listOf ((robs.map fun p => Value.ref p.1) ++ [Value.ref rn']).toArray (n1 + 1)) :: (td, listOf (ys ++ [Value.str ⟨(toldL pp ls (i + 1)).toArray⟩ t19]).toArray (n2 + 1)) :: (L' + 1 + 1, o2) :: (L' + 1, o3) :: robs) := by
            refine news_cell N18 hs20 hD20 zt.2.1 zt.2.2 fun p hp => ?_
            rcases List.mem_cons.mp hp with rfl | hp
            · exact .inr ⟨by simp, ne5⟩
            rcases List.mem_cons.mp hp with rfl | hp
            · exact .inr ⟨by simp, Ne.symm (off3 (td, listOf ys.toArray n2) (by simp)).1⟩
            rcases List.mem_cons.mp hp with rfl | hp
            · exact .inr ⟨by simp, Ne.symm (off3 (td, listOf ys.toArray n2) (by simp)).2⟩
            rcases List.mem_cons.mp hp with rfl | hp
            · exact .inr ⟨by simp, Nat.ne_of_lt l3.2.2.1⟩
            rcases List.mem_cons.mp hp with rfl | hp
            · exact .inr ⟨by simp, Nat.ne_of_lt l3.1⟩
            rcases List.mem_cons.mp hp with rfl | hp
            · exact .inl rfl
            rcases List.mem_cons.mp hp with rfl | hp
            · exact .inr ⟨by simp, Nat.ne_of_lt l3.2.2.2.1⟩
            rcases List.mem_cons.mp hp with rfl | hp
            · exact .inr ⟨by simp, Nat.ne_of_lt l3.2.2.2.2⟩
            · exact .inr ⟨by simp [hp], (hoff p hp).2.2⟩
          clear N18 F18 hs20 hD20 zt hJ2
          refine wpAny_execs_nil ⟨rfl, h20, _, _, (L' + 1 + 1 + 1, occ') :: (rw0, listOf ((robs.map fun p => Value.ref p.1) ++ [Value.ref rn']).toArray (n1 + 1)) :: (td, listOf (ys ++ [Value.str ⟨(toldL pp ls (i + 1)).toArray⟩ t19]).toArray (n2 + 1)) :: (L' + 1 + 1, o2) :: (L' + 1, o3) :: (robs ++ [(rn', listOf (List.toArray vs') nn)]), rfl, F20, fun p hp => ?_, fun p hp => ?_, rfl, rfl, occ', _, n1 + 1, _, n2 + 1, robs ++ [(rn', listOf (List.toArray vs') nn)], rfl, ⟨_, hdc'⟩, by rw [List.map_append]; rfl, hrows2, ?_, fun p hp => ?_⟩
          · refine N20 p ?_
            simp only [List.mem_cons, List.mem_append, List.not_mem_nil, or_false] at hp ⊢
            rcases hp with h | h | h | h | h | h | h | h | h <;> simp [h]
          · simp only [List.mem_cons, List.mem_append, List.not_mem_nil, or_false] at hp
            rcases hp with rfl | rfl | rfl | rfl | rfl | h | rfl
            · exact o3c
            · exact offe
            · exact off3 (td, listOf ys.toArray n2) (by simp)
            · exact off3 _ (by simp)
            · exact off3 _ (by simp)
            · exact off3 p (by simp [h])
            · exact ⟨ne1, ne2⟩
          · rw [List.range_succ, List.map_append]
            exact hys.append' (.cons _ _ .nil)
          · rcases List.mem_append.mp hp with h | h
            · exact hoff p h
            · rw [List.mem_singleton.mp h]; exact ⟨ne3, ne4, ne5⟩
      case ifA =>
        clear hys hp hpi hls hp4 ret hl4 dc d2 h1 F N
        k_steps
        · rename Fr s.heap _ _ _ => F10
          rename News s.heap _ _ _ => N10
          rename vs.isEmpty = true => hem
          rename_i l5 h10 _
          have hem' : (List.range i).filter (fun j => ls.getD j 0 == ls.getD i 0) = [] := by
            have h0 : vs = [] := List.isEmpty_iff.mp hem
            have h1 := hJ.length
            rw [h0, List.length_map] at h1
            exact List.length_eq_zero_iff.mp h1.symm
          have erow : nextRow ls i (rowsL ls i) = (rowsL ls i).getD i [] ++ [ls.getD i 0] ++ (rowsL ls i).getD i [] := by
            unfold nextRow aheadL; exact if_pos hem'
          have La : h10.IsList ra rvs.toArray := isList_of (n := rn) N10 (by simp [hpm])
          have Lb : h10.IsList l5 [Value.int ((ls.getD i 0 : Nat) : Int) tl].toArray := isList_of (n := 0) N10 (by simp)
          refine add_lists_ints (ns := (((rowsL ls i).getD i []).map Int.ofNat)) (ms := [((ls.getD i 0 : Nat) : Int)]) F10 N10 La Lb hri (.cons _ _ .nil) (fun h11 F11 N11 hi11 => ?_) (hsz := by rw [List.length_map]; show _ + 1 ≤ 2 ^ 24; omega)
          dsimp only at F11 N11 ⊢
          generalize h10.objs.size = r1 at *
          k_steps
          rename Fr s.heap _ _ _ => F12
          rename News s.heap _ _ _ => N12
          have Lc : h11.IsList r1 (rvs ++ [Value.int ((ls.getD i 0 : Nat) : Int) tl]).toArray := isList_of (n := 0) N12 (by simp)
          have Ld : h11.IsList ra rvs.toArray := isList_of (n := rn) N12 (by simp [hpm])
          have fresh : ∀ p : Addr × Obj, p ∈ ((r1, listOf (rvs ++ [Value.int ((ls.getD i 0 : Nat) : Int) tl]).toArray 0) :: (l5, listOf #[Value.int ((ls.getD i 0 : Nat) : Int) tl] 0) :: (D, LCg.lst vs) :: (e, oe) :: (it, oi) :: (L' + 1 + 1 + 1, occ') :: (rw0, listOf (robs.map fun p => Value.ref p.1).toArray n1) :: (td, listOf ys.toArray n2) :: (L' + 1 + 1, o2) :: (L' + 1, o3) :: robs) → h11.objs.size ≠ p.1 := fun p hp => Nat.ne_of_gt (Heap.lt_size (N12 p hp).1)
          refine add_lists_ints (ns := (((rowsL ls i).getD i []).map Int.ofNat) ++ [((ls.getD i 0 : Nat) : Int)]) (ms := (((rowsL ls i).getD i []).map Int.ofNat)) F12 N12 Lc Ld hi11 hri (fun h13 F13 N13 hi13 => ?_) (hsz := by rw [List.length_append, List.length_map]; show _ + 1 + _ ≤ 2 ^ 24; omega)
          dsimp only at F13 N13 ⊢
          generalize h11.objs.size = r2 at *
          k_steps
          rename Fr s.heap _ _ _ => F14
          rename News s.heap _ _ _ => N14
          refine ⟨rfl, _, _, r2, rvs ++ [Value.int ((ls.getD i 0 : Nat) : Int) tl] ++ rvs, 0, _, rfl, F14, fun p hp => N14 p ?_, ?_, ⟨fresh (e, oe) (by simp), fresh (it, oi) (by simp), fresh (L' + 1 + 1 + 1, occ') (by simp), fresh (rw0, listOf (robs.map fun p => Value.ref p.1).toArray n1) (by simp), fresh (td, listOf ys.toArray n2) (by simp)⟩, rfl, rfl, rfl⟩
          · rcases List.mem_cons.mp hp with rfl | hp
            · exact List.mem_cons_self ..
            · exact List.mem_cons_of_mem _ (List.mem_cons_of_mem _ (List.mem_cons_of_mem _ (List.mem_cons_of_mem _ hp)))
          · rw [erow, List.map_append, List.map_append]
            exact hi13
        · rename vs.isEmpty = false => hem
          have hne : (List.range i).filter (fun j => ls.getD j 0 == ls.getD i 0) ≠ [] := by
            intro q
            have h1 := hJ.length
            rw [q] at h1
            have h0 : vs = [] := List.length_eq_zero_iff.mp h1
            rw [h0] at hem; cases hem
          have erow : nextRow ls i (rowsL ls i) = (rowsL ls i).getD i [] ++ ((rowsL ls i).getD i []).drop ((rowsL ls i).getD (((List.range i).filter (fun j => ls.getD j 0 == ls.getD i 0)).getLastD 0) []).length := by
            unfold nextRow aheadL; exact if_neg hne
          generalize hal : (List.range i).filter (fun j => ls.getD j 0 == ls.getD i 0) = al at *
          have hsub : ∀ x ∈ al, x < i := fun x hx => by
            rw [← hal] at hx
            exact List.mem_range.mp (List.mem_filter.mp hx).1
          have hlen1 : 1 ≤ al.length := List.length_pos_iff.mpr hne
          have hlast : ((al.map Int.ofNat).getD (-1 + ((al.map Int.ofNat).length : Int)).toNat 0) = ((al.getLastD 0 : Nat) : Int) := by
            rw [List.length_map, show (-1 + (al.length : Int)).toNat = al.length - 1 by omega, List.getD_eq_getElem?_getD, List.getElem?_map, List.getLastD_eq_getLast?, List.getLast?_eq_getElem?]
            rw [List.getElem?_eq_getElem (by omega : al.length - 1 < al.length)]
            rfl
          have hkk : al.getLastD 0 < i := by
            have : al.getLastD 0 ∈ al := by
              rw [List.getLastD_eq_getLast?, List.getLast?_eq_some_getLast hne]
              exact List.getLast_mem hne
            exact hsub _ this
          generalize al.getLastD 0 = kk at *
          obtain ⟨⟨rk, rko⟩, hkp⟩ : ∃ p, robs[kk]? = some p := ⟨_, List.getElem?_eq_getElem (by rw [hrl1, rowsL_length]; omega)⟩
          obtain ⟨kvs, kn, hko, hki⟩ := hrows kk _ hkp
          dsimp only at hko
          subst hko
          have hkm : (rk, listOf kvs.toArray kn) ∈ robs := List.mem_of_getElem? hkp
          refine item_list_ints_neg (ns := al.map Int.ofNat) (isList_of (r := D) (its := vs.toArray) (n := vs.length) N9 (by simp)) hJ (by decide) (by rw [List.length_map]; omega) (by decide) (fun ta => ?_)
          rw [hlast]
          refine item_list (isList_of (r := rw0) (its := (robs.map fun p => Value.ref p.1).toArray) (n := n1) N9 (by simp)) (Int.natCast_nonneg _) (by show (kk : Int) < 2 ^ 63; omega) (x := .ref rk) (by rw [Int.toNat_natCast, List.getElem?_toArray, List.getElem?_map, hkp]; rfl) ?_
          have Lk : h9.IsList rk kvs.toArray := isList_of (n := kn) N9 (by simp [hkm])
          have La : h9.IsList ra rvs.toArray := isList_of (n := rn) N9 (by simp [hpm])
          have hkl : kvs.length = ((rowsL ls i).getD kk []).length := by rw [hki.length, List.length_map]
          have hkl2 : kvs.length ≤ 100 := by rw [hkl, rowsL_stable ls (Nat.le_of_lt hkk)]; exact hrl kk (by omega)
          have hrv : rvs.length = ((rowsL ls i).getD i []).length := by rw [hri.length, List.length_map]
          clear hrows hpr hkp hvl hsub hlen1 hne hlast hal hem off3
          k_steps
          refine len_list Lk (by rw [List.size_toArray]; omega) ?_
          k_steps
          refine kmk_slice3_lit F9 N9 La (IsPart.int _ _) IsPart.none IsPart.none (by decide) rfl (fun D2 h11 F11 N11 hlt => ?_) (by with_unfolding_all rfl) (by intro _; with_unfolding_all rfl) (by rw [List.size_toArray]; show _ ≤ 2 ^ 24; omega)
          dsimp only at F11 N11 ⊢
          have hri2 : IntsAre (slicePick rvs.toArray (some (kvs.toArray.size : Int)) none none).toList (((rowsL ls i).getD i []).map Int.ofNat |>.drop ((rowsL ls i).getD kk []).length) := by
            have := kmk_from (x := (((rowsL ls i).getD kk []).length : Int)) hri (Int.natCast_nonneg _)
            rw [Int.toNat_natCast] at this
            rw [List.size_toArray, hkl]
            exact this
          generalize (slicePick rvs.toArray (some (kvs.toArray.size : Int)) none none).toList = zvs at *
          have Lc : h11.IsList ra rvs.toArray := isList_of (n := rn) N11 (by simp [hpm])
          have Ld : h11.IsList D2 zvs.toArray := isList_of (n := 0) N11 (by simp)
          have fresh : ∀ p : Addr × Obj, p ∈ ((D2, listOf zvs.toArray 0) :: (D, LCg.lst vs) :: (e, oe) :: (it, oi) :: (L' + 1 + 1 + 1, occ') :: (rw0, listOf (robs.map fun p => Value.ref p.1).toArray n1) :: (td, listOf ys.toArray n2) :: (L' + 1 + 1, o2) :: (L' + 1, o3) :: robs) → h11.objs.size ≠ p.1 := fun p hp => Nat.ne_of_gt (Heap.lt_size (N11 p hp).1)
          refine add_lists_ints (ns := (((rowsL ls i).getD i []).map Int.ofNat)) (ms := (((rowsL ls i).getD i []).map Int.ofNat |>.drop ((rowsL ls i).getD kk []).length)) F11 N11 Lc Ld hri hri2 (fun h13 F13 N13 hi13 => ?_) (hsz := by rw [List.length_drop, List.length_map]; show _ + (_ - _) ≤ 2 ^ 24; omega)
          dsimp only at F13 N13 ⊢
          generalize h11.objs.size = r2 at *
          k_steps
          rename Fr s.heap _ _ _ => F14
          rename News s.heap _ _ _ => N14
          refine ⟨rfl, _, _, r2, rvs ++ zvs, 0, _, rfl, F14, fun p hp => N14 p ?_, ?_, ⟨fresh (e, oe) (by simp), fresh (it, oi) (by simp), fresh (L' + 1 + 1 + 1, occ') (by simp), fresh (rw0, listOf (robs.map fun p => Value.ref p.1).toArray n1) (by simp), fresh (td, listOf ys.toArray n2) (by simp)⟩, rfl, rfl, rfl⟩
          · rcases List.mem_cons.mp hp with rfl | hp
            · exact List.mem_cons_self ..
            · exact List.mem_cons_of_mem _ (List.mem_cons_of_mem _ (List.mem_cons_of_mem _ hp))
          · rw [erow, List.map_append, List.map_drop]
            exact hi13
end Mine

/-! Pal -/
namespace Mine
set_option maxRecDepth 100000
example : True := by (w_top off); trivial
/-! ## the plain law: closures by an exchange that turns about (Justin; de Luca and De Luca) -/
namespace Pal
variable {τ : Nat → Nat}
def th (τ : Nat → Nat) (w : List Nat) : List Nat := w.reverse.map τ
theorem th_append (u v : List Nat) : th τ (u ++ v) = th τ v ++ th τ u := by unfold th; rw [List.reverse_append, List.map_append]
theorem th_len (w : List Nat) : (th τ w).length = w.length := by unfold th; rw [List.length_map, List.length_reverse]
theorem th_one (x : Nat) : th τ [x] = [τ x] := rfl
theorem th_cons (x : Nat) (w : List Nat) : th τ (x :: w) = th τ w ++ [τ x] := by rw [show x :: w = [x] ++ w from rfl, th_append]; rfl
theorem th_th (hτ : ∀ c, τ (τ c) = c) (w : List Nat) : th τ (th τ w) = w := by
  unfold th
  rw [← List.map_reverse, List.reverse_reverse, List.map_map]
  have : τ ∘ τ = id := funext hτ
  rw [this, List.map_id]
theorem th_nil : th τ [] = [] := rfl
/-- the least place from which on the rest is its own image -/
def sk (τ : Nat → Nat) (w : List Nat) : Nat → Nat → Nat
  | 0, st => st
  | f + 1, st => if th τ (w.drop st) = w.drop st then st else sk τ w f (st + 1)
theorem sk_le (w : List Nat) : ∀ f st, sk τ w f st ≤ st + f
  | 0, st => Nat.le_refl _
  | f + 1, st => by
    rw [sk]; split
    · omega
    · have := sk_le w f (st + 1); omega
theorem sk_pal (w : List Nat) : ∀ f st, st + f = w.length → th τ (w.drop (sk τ w f st)) = w.drop (sk τ w f st)
  | 0, st, h => by rw [sk, List.drop_of_length_le (by omega)]; rfl
  | f + 1, st, h => by
    rw [sk]; split
    · assumption
    · exact sk_pal w f (st + 1) (by omega)
theorem sk_least (w : List Nat) {t : Nat} : ∀ f st, st ≤ t → t ≤ st + f → th τ (w.drop t) = w.drop t → sk τ w f st ≤ t
  | 0, st, h1, h2, _ => by rw [sk]; omega
  | f + 1, st, h1, h2, hp => by
    rw [sk]; split
    · exact h1
    · rename_i hn
      have : st ≠ t := fun q => hn (q ▸ hp)
      exact sk_least w f (st + 1) (by omega) (by omega) hp
def cut (τ : Nat → Nat) (w : List Nat) : Nat := sk τ w w.length 0
theorem cut_le (w : List Nat) : cut τ w ≤ w.length := by have := sk_le (τ := τ) w w.length 0; unfold cut; omega
theorem cut_pal (w : List Nat) : th τ (w.drop (cut τ w)) = w.drop (cut τ w) := sk_pal w _ _ (by omega)
theorem cut_least {w : List Nat} {t : Nat} (ht : t ≤ w.length) (hp : th τ (w.drop t) = w.drop t) : cut τ w ≤ t := sk_least w _ _ (Nat.zero_le _) (by omega) hp
theorem cut_eq {w : List Nat} {t : Nat} (ht : t ≤ w.length) (hp : th τ (w.drop t) = w.drop t) (hn : ∀ u, u < t → th τ (w.drop u) ≠ w.drop u) : cut τ w = t := by
  have h1 := cut_least ht hp
  rcases Nat.lt_or_ge (cut τ w) t with q | q
  · exact absurd (cut_pal w) (hn _ q)
  · omega
/-- the shortest word that begins so and is its own image -/
def clo (τ : Nat → Nat) (w : List Nat) : List Nat := w ++ th τ (w.take (cut τ w))
theorem clo_pal (hτ : ∀ c, τ (τ c) = c) (w : List Nat) : th τ (clo τ w) = clo τ w := by
  have hp := cut_pal (τ := τ) w
  have hw : w.take (cut τ w) ++ w.drop (cut τ w) = w := List.take_append_drop ..
  unfold clo
  generalize w.take (cut τ w) = a at *
  generalize w.drop (cut τ w) = b at *
  rw [← hw, th_append, th_append, th_th hτ, hp, List.append_assoc]
theorem clo_len (w : List Nat) : (clo τ w).length = w.length + cut τ w := by
  unfold clo
  rw [List.length_append, th_len, List.length_take, Nat.min_eq_left (cut_le w)]
theorem clo_min (hτ : ∀ c, τ (τ c) = c) {w r : List Nat} (hp : th τ (w ++ r) = w ++ r) : cut τ w ≤ r.length := by
  rcases Nat.lt_or_ge w.length r.length with q | q
  · exact Nat.le_trans (cut_le w) (Nat.le_of_lt q)
  · refine cut_least q ?_
    have hw : w.take r.length ++ w.drop r.length = w := List.take_append_drop ..
    have hl : (w.take r.length).length = r.length := by rw [List.length_take, Nat.min_eq_left q]
    generalize w.take r.length = a at *
    generalize w.drop r.length = b at *
    rw [← hw, th_append, th_append, List.append_assoc] at hp
    obtain ⟨h1, h2⟩ := List.append_inj hp (by rw [th_len, hl])
    exact (List.append_inj h2 (by rw [th_len])).1
/-- the words that the letters make one after the other -/
def wd (τ : Nat → Nat) (ks : List Nat) : Nat → List Nat
  | 0 => []
  | i + 1 => clo τ (wd τ ks i ++ [ks.getD i 0])
section
variable {ks : List Nat}
theorem wd_pal (hτ : ∀ c, τ (τ c) = c) : ∀ i : Nat, th τ (wd τ ks i) = wd τ ks i
  | 0 => rfl
  | _ + 1 => clo_pal hτ _
theorem wd_step (i : Nat) : wd τ ks i ++ [ks.getD i 0] <+: wd τ ks (i + 1) := by
  rw [wd]; unfold clo; exact List.prefix_append ..
theorem wd_pre {i : Nat} : ∀ {n : Nat}, i ≤ n → wd τ ks i <+: wd τ ks n
  | 0, h => by rw [Nat.le_zero.mp h]; exact List.prefix_refl _
  | n + 1, h => by
    rcases Nat.lt_or_eq_of_le h with q | q
    · exact (wd_pre (Nat.le_of_lt_succ q)).trans ((List.prefix_append ..).trans (wd_step n))
    · rw [q]; exact List.prefix_refl _
theorem wd_next {i n : Nat} (h : i < n) : wd τ ks i ++ [ks.getD i 0] <+: wd τ ks n := (wd_step i).trans (wd_pre h)
theorem wd_lt {i n : Nat} (h : i < n) : (wd τ ks i).length < (wd τ ks n).length := by
  have := (wd_next (τ := τ) (ks := ks) h).length_le
  rw [List.length_append] at this
  exact this
theorem wd_only (hτ : ∀ c, τ (τ c) = c) : ∀ n {p : List Nat}, p <+: wd τ ks n → th τ p = p → ∃ i, i ≤ n ∧ p = wd τ ks i
  | 0, p, h, _ => ⟨0, Nat.le_refl _, List.prefix_nil.mp h⟩
  | n + 1, p, h, hp => by
    rcases Nat.lt_or_ge (wd τ ks n).length p.length with q | q
    · refine ⟨n + 1, Nat.le_refl _, ?_⟩
      have h1 : wd τ ks n ++ [ks.getD n 0] <+: p := List.prefix_of_prefix_length_le (wd_step n) h (by rw [List.length_append]; exact q)
      obtain ⟨r, rfl⟩ := h1
      have h2 := clo_min hτ hp
      refine h.eq_of_length (Nat.le_antisymm h.length_le ?_)
      rw [wd, clo_len, List.length_append (bs := r)]
      omega
    · obtain ⟨i, hi, e⟩ := wd_only hτ n (List.prefix_of_prefix_length_le h ((List.prefix_append ..).trans (wd_step n)) q) hp
      exact ⟨i, Nat.le_succ_of_le hi, e⟩
/-- a rest of the last word with the new letter behind it that is its own image: the middle is one of the words, and that one was followed by the new letter -/
theorem inner (hτ : ∀ c, τ (τ c) = c) {n u : Nat} (hu : u < (wd τ ks n).length) (hp : th τ ((wd τ ks n ++ [ks.getD n 0]).drop u) = (wd τ ks n ++ [ks.getD n 0]).drop u) :
    ∃ j, j < n ∧ ks.getD j 0 = ks.getD n 0 ∧ (wd τ ks j).length + 1 + u = (wd τ ks n).length := by
  generalize hx : ks.getD n 0 = x at *
  rw [List.drop_append_of_le_length (Nat.le_of_lt hu)] at hp
  have hW := wd_pal (ks := ks) hτ n
  obtain ⟨d, D, hD⟩ : ∃ d D, (wd τ ks n).drop u = d :: D := by
    cases e : (wd τ ks n).drop u with
    | nil => have := List.drop_eq_nil_iff.mp e; omega
    | cons d D => exact ⟨d, D, rfl⟩
  rw [hD, th_append, th_one, th_cons] at hp
  have h1 : τ x :: (th τ D ++ [τ d]) = d :: (D ++ [x]) := hp
  obtain ⟨rfl, h2⟩ := List.cons.inj h1
  have h3 : th τ D = D := (List.append_inj h2 (th_len D)).1
  have hsp : (wd τ ks n).take u ++ (τ x :: D) = wd τ ks n := by rw [← hD]; exact List.take_append_drop ..
  have hr : wd τ ks n = D ++ [x] ++ th τ ((wd τ ks n).take u) := by
    rw [← hW]
    conv => lhs; rw [← hsp]
    rw [th_append, th_cons, h3, hτ]
    rw [hW]
  have hpre : D ++ [x] <+: wd τ ks n := ⟨_, hr.symm⟩
  obtain ⟨j, hj, rfl⟩ := wd_only hτ n ((List.prefix_append ..).trans hpre) h3
  have hlen : (wd τ ks j).length + 1 + u = (wd τ ks n).length := by
    have := congrArg List.length hD
    rw [List.length_drop, List.length_cons] at this
    omega
  have hjn : j < n := by
    rcases Nat.lt_or_eq_of_le hj with q | q
    · exact q
    · rw [q] at hlen; omega
  refine ⟨j, hjn, ?_, hlen⟩
  have ha := wd_next (τ := τ) (ks := ks) hjn
  have := List.prefix_of_prefix_length_le ha hpre (by simp)
  have := this.eq_of_length (by simp)
  have := List.append_inj_right this rfl
  exact (List.cons.inj this).1
theorem step_old (hτ : ∀ c, τ (τ c) = c) {n i : Nat} (hi : i < n) (hx : ks.getD i 0 = ks.getD n 0) (hlast : ∀ j, j < n → ks.getD j 0 = ks.getD n 0 → j ≤ i) :
    wd τ ks (n + 1) = wd τ ks n ++ (wd τ ks n).drop (wd τ ks i).length := by
  have hW := wd_pal (ks := ks) hτ n
  have hI := wd_pal (ks := ks) hτ i
  obtain ⟨r, hr⟩ := wd_next (τ := τ) (ks := ks) hi
  rw [hx] at hr
  have hcut : cut τ (wd τ ks n ++ [ks.getD n 0]) = r.length := by
    have hl := congrArg List.length hr
    rw [List.length_append, List.length_append, List.length_singleton] at hl
    refine cut_eq (by rw [List.length_append]; omega) ?_ fun u hu hp => ?_
    · have e : wd τ ks n = th τ r ++ (τ (ks.getD n 0) :: wd τ ks i) := by
        rw [← hW]
        conv => lhs; rw [← hr]
        rw [th_append, th_append, hI]; rfl
      rw [e, List.append_assoc, List.drop_left' (th_len r)]
      generalize ks.getD n 0 = x
      rw [List.cons_append, th_cons, th_append, hI, hτ]; rfl
    · obtain ⟨j, hj, hjx, hjl⟩ := inner hτ (by omega) hp
      have hji := hlast j hj hjx
      have : (wd τ ks j).length ≤ (wd τ ks i).length := (wd_pre hji).length_le
      omega
  rw [wd]
  unfold clo
  rw [hcut]
  have hl := congrArg List.length hr
  rw [List.length_append, List.length_append, List.length_singleton] at hl
  have e : wd τ ks n = th τ r ++ (τ (ks.getD n 0) :: wd τ ks i) := by
    rw [← hW]
    conv => lhs; rw [← hr]
    rw [th_append, th_append, hI]; rfl
  have e2 : (wd τ ks n ++ [ks.getD n 0]).take r.length = th τ r := by
    conv => lhs; rw [e, List.append_assoc]
    exact List.take_left' (th_len r)
  rw [e2, th_th hτ]
  have e3 : (wd τ ks n).drop (wd τ ks i).length = [ks.getD n 0] ++ r := by
    conv => lhs; rw [← hr, List.append_assoc]
    exact List.drop_left' rfl
  rw [e3, List.append_assoc]
theorem step_new (hτ : ∀ c, τ (τ c) = c) {n : Nat} (hno : ∀ j, j < n → ks.getD j 0 ≠ ks.getD n 0) :
    wd τ ks (n + 1) = wd τ ks n ++ (ks.getD n 0 :: (if τ (ks.getD n 0) = ks.getD n 0 then [] else [τ (ks.getD n 0)])) ++ wd τ ks n := by
  have hW := wd_pal (ks := ks) hτ n
  have low : ∀ u, u < (wd τ ks n).length → th τ ((wd τ ks n ++ [ks.getD n 0]).drop u) ≠ (wd τ ks n ++ [ks.getD n 0]).drop u := fun u hu hp => by
    obtain ⟨j, hj, hjx, _⟩ := inner hτ hu hp
    exact hno j hj hjx
  rw [wd]
  unfold clo
  by_cases q : τ (ks.getD n 0) = ks.getD n 0
  · have hcut : cut τ (wd τ ks n ++ [ks.getD n 0]) = (wd τ ks n).length :=
      cut_eq (by rw [List.length_append]; omega) (by rw [List.drop_left' rfl, th_one, q]) low
    rw [hcut, List.take_left' rfl, hW, if_pos q]
  · have hcut : cut τ (wd τ ks n ++ [ks.getD n 0]) = (wd τ ks n).length + 1 :=
      cut_eq (by rw [List.length_append]; exact Nat.le_refl _) (by rw [List.drop_of_length_le (by rw [List.length_append]; exact Nat.le_refl _)]; rfl) fun u hu => by
        rcases Nat.lt_or_eq_of_le (Nat.le_of_lt_succ hu) with h | h
        · exact low u h
        · rw [h, List.drop_left' rfl, th_one]
          exact fun z => q (List.cons.inj z).1
    rw [hcut, List.take_of_length_le (by rw [List.length_append]; exact Nat.le_refl _), th_append, hW, if_neg q, th_one]
    simp
end
/-- the sizes of the fronts that are their own images -/
theorem sizes (hτ : ∀ c, τ (τ c) = c) (ks : List Nat) (n : Nat) :
    ((List.range ((wd τ ks n).length + 1)).filter fun k => th τ ((wd τ ks n).take k) == (wd τ ks n).take k) = (List.range (n + 1)).map fun i => (wd τ ks i).length := by
  have s1 : List.Pairwise (· < ·) ((List.range ((wd τ ks n).length + 1)).filter fun k => th τ ((wd τ ks n).take k) == (wd τ ks n).take k) := List.pairwise_lt_range.filter _
  have s2 : List.Pairwise (· < ·) ((List.range (n + 1)).map fun i => (wd τ ks i).length) := by
    rw [List.pairwise_map]
    exact List.pairwise_lt_range.imp fun h => wd_lt h
  refine List.Perm.eq_of_pairwise (le := (· < ·)) (fun a b _ _ h1 h2 => absurd h1 (Nat.lt_asymm h2)) s1 s2 ?_
  refine (List.perm_ext_iff_of_nodup (s1.imp Nat.ne_of_lt) (s2.imp Nat.ne_of_lt)).mpr fun k => ?_
  rw [List.mem_filter, List.mem_map, List.mem_range, beq_iff_eq]
  constructor
  · rintro ⟨hk, hp⟩
    obtain ⟨i, hi, e⟩ := wd_only hτ n (List.take_prefix ..) hp
    refine ⟨i, List.mem_range.mpr (Nat.lt_succ_of_le hi), ?_⟩
    rw [← e, List.length_take, Nat.min_eq_left (Nat.le_of_lt_succ hk)]
  · rintro ⟨i, hi, rfl⟩
    have hi := Nat.le_of_lt_succ (List.mem_range.mp hi)
    have hp := wd_pre (τ := τ) (ks := ks) hi
    refine ⟨Nat.lt_succ_of_le hp.length_le, ?_⟩
    rw [← List.prefix_iff_eq_take.mp hp, wd_pal hτ]
end Pal
end Mine

/-! Plain -/
namespace Mine
open PySem PySem.W PyProof.Rows PySem.Calls PySem.Spec
set_option maxRecDepth 100000
example : True := by (w_top off); trivial
/-! ## the plain law of the fronts -/
/-- the exchange of the letters' codes, all others left -/
def swapT (pp : List Nat) (c : Nat) : Nat := if c ∈ four then mate pp c else c
def Turns (pp : List Nat) : Prop := ∀ k, k < 4 → pp.getD k 0 < 4 ∧ pp.getD (pp.getD k 0) 0 = k
theorem four_at {k : Nat} (h : k < 4) : four.getD k 0 ∈ four ∧ four.idxOf (four.getD k 0) = k := by
  have : ∀ k < 4, four.getD k 0 ∈ four ∧ four.idxOf (four.getD k 0) = k := by decide
  exact this k h
theorem four_back {c : Nat} (h : c ∈ four) : four.idxOf c < 4 ∧ four.getD (four.idxOf c) 0 = c := by
  have : ∀ c ∈ four, four.idxOf c < 4 ∧ four.getD (four.idxOf c) 0 = c := by decide
  exact this c h
theorem mate_at {pp : List Nat} {k : Nat} (h : k < 4) : mate pp (four.getD k 0) = four.getD (pp.getD k 0) 0 := by
  unfold mate; rw [(four_at h).2]
theorem swapT_swapT {pp : List Nat} (ht : Turns pp) (c : Nat) : swapT pp (swapT pp c) = c := by
  by_cases hc : c ∈ four
  · obtain ⟨h4, he⟩ := four_back hc
    have h1 : swapT pp c = four.getD (pp.getD (four.idxOf c) 0) 0 := by unfold swapT; rw [if_pos hc]; rfl
    obtain ⟨h2, h3⟩ := ht _ h4
    rw [h1]
    unfold swapT
    rw [if_pos (four_at h2).1, mate_at h2, h3, he]
  · have h1 : swapT pp c = c := by unfold swapT; rw [if_neg hc]
    rw [h1, h1]
theorem imageL_th {pp w : List Nat} (hw : ∀ d ∈ w, d ∈ four) : imageL pp w = Pal.th (swapT pp) w := by
  unfold imageL Pal.th
  refine List.map_congr_left fun d hd => ?_
  unfold swapT
  rw [if_pos (hw d (List.mem_reverse.mp hd))]
theorem take_th {τ : Nat → Nat} (w : List Nat) {st : Nat} : (Pal.th τ w).take (w.length - st) = Pal.th τ (w.drop st) := by
  unfold Pal.th
  rw [← List.map_take, List.reverse_drop]
theorem drop_th {τ : Nat → Nat} (w : List Nat) {k : Nat} (hk : k ≤ w.length) : (Pal.th τ w).drop (w.length - k) = Pal.th τ (w.take k) := by
  have := take_th (τ := τ) (Pal.th τ w) (st := 0)
  unfold Pal.th
  rw [← List.map_drop, List.reverse_take]
theorem seek_sk {τ : Nat → Nat} (w : List Nat) : ∀ f st, seek w (Pal.th τ w) f st = Pal.sk τ w f st
  | 0, st => rfl
  | f + 1, st => by
    rw [seek, Pal.sk, take_th]
    by_cases h : w.drop st = Pal.th τ (w.drop st)
    · rw [if_pos h, if_pos h.symm]
    · rw [if_neg h, if_neg fun q => h q.symm, seek_sk w f (st + 1)]
theorem closeL_clo {pp w : List Nat} (hw : ∀ d ∈ w, d ∈ four) : closeL pp w = Pal.clo (swapT pp) w := by
  unfold closeL Pal.clo
  rw [imageL_th hw, seek_sk]
  show w ++ (Pal.th _ w).drop (w.length - Pal.cut (swapT pp) w) = _
  rw [drop_th w (Pal.cut_le w)]
theorem frontL_wd {pp ks : List Nat} (hpp : ∀ x ∈ pp, x < 4) (hks : ∀ d ∈ ks, d ∈ four) : ∀ i, i ≤ ks.length → frontL pp ks i = Pal.wd (swapT pp) ks i
  | 0, _ => rfl
  | i + 1, hi => by
    have h4 : ∀ d ∈ frontL pp ks i ++ [ks.getD i 0], d ∈ four := fun d hd => by
      rcases List.mem_append.mp hd with hd | hd
      · exact frontL_four hpp hks i (by omega) d hd
      · rw [List.mem_singleton.mp hd, List.getD_eq_getElem?_getD, List.getElem?_eq_getElem (by omega)]
        exact hks _ (List.getElem_mem _)
    rw [frontL, closeL_clo h4, frontL_wd hpp hks i (by omega), Pal.wd]
/-! the rows -/
theorem row_pre (ls : List Nat) {k : Nat} : ∀ {n : Nat}, k ≤ n → (rowsL ls k).getD k [] <+: (rowsL ls n).getD n []
  | 0, h => by rw [Nat.le_zero.mp h]; exact List.prefix_refl _
  | n + 1, h => by
    rcases Nat.lt_or_eq_of_le h with q | q
    · refine (row_pre ls (Nat.le_of_lt_succ q)).trans ?_
      rw [rowsL_next]
      unfold nextRow
      split
      · rw [List.append_assoc]; exact List.prefix_append ..
      · exact List.prefix_append ..
    · rw [q]; exact List.prefix_refl _
theorem row_len (ls : List Nat) : ∀ i, ((rowsL ls i).getD i []).length + 1 ≤ 2 ^ i
  | 0 => Nat.le_refl _
  | i + 1 => by
    have h := row_len ls i
    rw [rowsL_next, Nat.pow_succ]
    unfold nextRow
    split
    · rw [List.length_append, List.length_append, List.length_singleton]; omega
    · rw [List.length_append, List.length_drop]; omega
theorem toldL_len (pp ls : List Nat) (i : Nat) : (toldL pp ls i).length ≤ 2 * ((rowsL ls i).getD i []).length := by
  unfold toldL
  generalize (rowsL ls i).getD i [] = r
  induction r with
  | nil => exact Nat.le_refl _
  | cons x r ih =>
    have : (pairL pp x).length ≤ 2 := by
      unfold pairL
      split
      · exact Nat.le_succ _
      · exact Nat.le_refl _
    rw [List.flatMap_cons, List.length_append, List.length_cons]
    omega
theorem last_filter {p : Nat → Bool} : ∀ n, (List.range n).filter p ≠ [] → p (((List.range n).filter p).getLastD 0) = true ∧ ((List.range n).filter p).getLastD 0 < n ∧ ∀ j, j < n → p j = true → j ≤ ((List.range n).filter p).getLastD 0
  | 0, h => absurd rfl h
  | n + 1, h => by
    rw [List.range_succ, List.filter_append] at h ⊢
    by_cases q : p n = true
    · rw [List.filter_cons_of_pos q, List.filter_nil, List.getLastD_eq_getLast?, List.getLast?_append]
      refine ⟨q, Nat.lt_succ_self _, fun j hj _ => Nat.le_of_lt_succ hj⟩
    · rw [List.filter_cons_of_neg q, List.filter_nil, List.append_nil] at h ⊢
      obtain ⟨a, b, c⟩ := last_filter n h
      refine ⟨a, Nat.lt_succ_of_lt b, fun j hj hp => ?_⟩
      rcases Nat.lt_or_eq_of_le (Nat.le_of_lt_succ hj) with z | z
      · exact c j z hp
      · rw [z] at hp; exact absurd hp q
theorem four_inj {a b : Nat} (ha : a < 4) (hb : b < 4) (h : four.getD a 0 = four.getD b 0) : a = b := by
  rw [← (four_at ha).2, ← (four_at hb).2, h]
theorem told_wd {pp ls : List Nat} (ht : Turns pp) (hls : ∀ x ∈ ls, x < 4) : ∀ i, i ≤ ls.length → toldL pp ls i = Pal.wd (swapT pp) (ls.map fun x => four.getD x 0) i
  | 0, _ => rfl
  | n + 1, hn => by
    have hτ := swapT_swapT ht
    have lt4 : ∀ j, j < ls.length → ls.getD j 0 < 4 := fun j hj => by
      rw [List.getD_eq_getElem?_getD, List.getElem?_eq_getElem hj]; exact hls _ (List.getElem_mem hj)
    have at4 : ∀ j, j < ls.length → (ls.map fun x => four.getD x 0).getD j 0 = four.getD (ls.getD j 0) 0 := fun j hj => by
      simp only [List.getD_eq_getElem?_getD, List.getElem?_map, List.getElem?_eq_getElem hj, Option.map_some, Option.getD_some]
    have same : ∀ j, j < ls.length → ((ls.map fun x => four.getD x 0).getD j 0 = (ls.map fun x => four.getD x 0).getD n 0 ↔ ls.getD j 0 = ls.getD n 0) := fun j hj => by
      rw [at4 j hj, at4 n hn]
      exact ⟨four_inj (lt4 j hj) (lt4 n hn), fun e => by rw [e]⟩
    have ih : ∀ j, j ≤ n → toldL pp ls j = Pal.wd (swapT pp) (ls.map fun x => four.getD x 0) j := fun j hj => told_wd ht hls j (by omega)
    unfold toldL
    rw [rowsL_next]
    unfold nextRow
    by_cases h : aheadL ls n n = []
    · have hno : ∀ j, j < n → (ls.map fun x => four.getD x 0).getD j 0 ≠ (ls.map fun x => four.getD x 0).getD n 0 := fun j hj q => by
        have : j ∈ aheadL ls n n := List.mem_filter.mpr ⟨List.mem_range.mpr hj, beq_iff_eq.mpr ((same j (by omega)).mp q)⟩
        rw [h] at this; cases this
      rw [if_pos h, List.flatMap_append, List.flatMap_append, Pal.step_new hτ hno, ← ih n (Nat.le_refl _)]
      have hp : [ls.getD n 0].flatMap (pairL pp) = (ls.map fun x => four.getD x 0).getD n 0 :: (if swapT pp ((ls.map fun x => four.getD x 0).getD n 0) = (ls.map fun x => four.getD x 0).getD n 0 then [] else [swapT pp ((ls.map fun x => four.getD x 0).getD n 0)]) := by
        rw [List.flatMap_cons, List.flatMap_nil, List.append_nil, at4 n hn]
        have h4 := lt4 n hn
        have e : swapT pp (four.getD (ls.getD n 0) 0) = four.getD (pp.getD (ls.getD n 0) 0) 0 := by
          unfold swapT; rw [if_pos (four_at h4).1, mate_at h4]
        rw [e]
        unfold pairL
        by_cases q : pp.getD (ls.getD n 0) 0 = ls.getD n 0
        · rw [if_pos q, if_pos (by rw [q])]
        · rw [if_neg q, if_neg fun z => q (four_inj (ht _ h4).1 h4 z)]
      rw [hp]
      rfl
    · obtain ⟨a, b, c⟩ := last_filter n h
      change (ls.getD ((aheadL ls n n).getLastD 0) 0 == ls.getD n 0) = true at a
      change (aheadL ls n n).getLastD 0 < n at b
      change ∀ j, j < n → (ls.getD j 0 == ls.getD n 0) = true → j ≤ (aheadL ls n n).getLastD 0 at c
      rw [if_neg h]
      generalize (aheadL ls n n).getLastD 0 = k at *
      rw [Pal.step_old hτ b ((same k (by omega)).mpr (beq_iff_eq.mp a)) (fun j hj q => c j hj (beq_iff_eq.mpr ((same j (by omega)).mp q))), ← ih n (Nat.le_refl _), ← ih k (Nat.le_of_lt b)]
      rw [rowsL_stable ls (Nat.le_of_lt b)]
      obtain ⟨r, hr⟩ := row_pre ls (Nat.le_of_lt b)
      unfold toldL
      rw [← hr, List.flatMap_append, List.drop_left' rfl, List.flatMap_append, List.drop_left' rfl]
/-- what the law asks, in plain words -/
theorem fronts_told {pp ls : List Nat} (hpp : ∀ x ∈ pp, x < 4) (ht : Turns pp) (hls : ∀ x ∈ ls, x < 4) {i : Nat} (hi : i ≤ ls.length) : frontL pp (ls.map fun x => four.getD x 0) i = toldL pp ls i := by
  rw [told_wd ht hls i hi]
  refine frontL_wd hpp (fun d hd => ?_) i (by rw [List.length_map]; exact hi)
  obtain ⟨x, hx, rfl⟩ := List.mem_map.mp hd
  exact (four_at (hls x hx)).1
theorem told_four {pp ls : List Nat} (hpp : ∀ x ∈ pp, x < 4) (ht : Turns pp) (hls : ∀ x ∈ ls, x < 4) {i : Nat} (hi : i ≤ ls.length) : ∀ d ∈ toldL pp ls i, d ∈ four := by
  rw [← fronts_told hpp ht hls hi]
  refine frontL_four hpp (fun d hd => ?_) i (by rw [List.length_map]; exact hi)
  obtain ⟨x, hx, rfl⟩ := List.mem_map.mp hd
  exact (four_at (hls x hx)).1
theorem sizes_told {pp ls : List Nat} (hpp : ∀ x ∈ pp, x < 4) (ht : Turns pp) (hls : ∀ x ∈ ls, x < 4) :
    ((List.range ((toldL pp ls ls.length).length + 1)).filter fun k => (toldL pp ls ls.length).take k == (imageL pp (toldL pp ls ls.length)).drop ((toldL pp ls ls.length).length - k)) = (List.range (ls.length + 1)).map fun i => (toldL pp ls i).length := by
  have hτ := swapT_swapT ht
  have h := Pal.sizes hτ (ls.map fun x => four.getD x 0) ls.length
  have h4 := told_four hpp ht hls (Nat.le_refl ls.length)
  have e : ∀ i, i ≤ ls.length → toldL pp ls i = Pal.wd (swapT pp) (ls.map fun x => four.getD x 0) i := fun i hi => told_wd ht hls i hi
  have e2 : ((List.range (ls.length + 1)).map fun i => (toldL pp ls i).length) = (List.range (ls.length + 1)).map fun i => (Pal.wd (swapT pp) (ls.map fun x => four.getD x 0) i).length :=
    List.map_congr_left fun i hi => by rw [e i (Nat.le_of_lt_succ (List.mem_range.mp hi))]
  rw [e2, ← h]
  rw [← e _ (Nat.le_refl _)]
  refine List.filter_congr fun k hk => ?_
  have hk := Nat.le_of_lt_succ (List.mem_range.mp hk)
  rw [imageL_th h4, drop_th _ hk]
  rw [Bool.eq_iff_iff, beq_iff_eq, beq_iff_eq]
  exact eq_comm
end Mine

/-! HdC -/
namespace Mine
open PySem PySem.W PyProof.Rows PySem.Calls
set_option maxRecDepth 100000
set_option maxHeartbeats 8000000
example : True := by (w_top off); trivial
/-! ## the head over the caller's clean stack -/
/-- what is asked of the call: the library's question, over clean stacks only -/
abbrev AskC (q : Program) (loose : List Str) (XP : (Str → Option Value) → Heap → Prop) (YP : World → Heap → Prop) (r : RowW) (d : DefRec) (kwd : List (Str × Expr)) : Prop :=
  ∀ (w : World) (s₀ s₁ : Shared) (mg mb : Str → Option Value), Ground q loose r.records XP w s₀ mg mb s₁.heap → YP w s₁.heap → ∀ (a : Addr) (o : Obj) (pm cd doc dV kV : Value), s₁.heap.get? a = some o →
    o.data = .func { docDef d.name d.params d.body d.scope pm cd doc with defaults := dV, kwdefaults := kV } → s₁.heap.CodeRec cd d.name → Dflts mg s₁.heap d.params kwd dV kV → mg d.name = some (.ref a) → s₁.gens = #[] →
    ∀ (args : List WData) (vals : List Value) (as : List Addr), r.claim.pre args = true → WData.layableAll args = true → ReadsAllW r.records (classAt s₀.heap) s₁.heap vals args as → WellAll w.params s₁.heap vals args → (∀ a ∈ as, (a == sysModules) = false) →
      wpC (model r.prog w) callerA (PySem.call (.ref a) vals) (fun v s' => GoodW r.claim (classAt s₀.heap) (ExcName.means s₀.heap) args s₁ (.ok (.ret v)) s') (fun _ _ => False) s₁

theorem holdsC {r : OpenRow} {q : Program} {loose : List Str} {Xt : Shared → Bool} {XP : (Str → Option Value) → Heap → Prop} {H : Hook} {d : DefRec} {kwd : List (Str × Expr)} {N : Nat}
    (left : LeftO r.prog q loose Xt H.obs H.val N)
    (hX : ∀ s, Xt s = true → XP (s.heap.nsMap mainGlobals) s.heap ∧ RecFacts r.records s.heap) (hXk : ∀ mg h h', XP mg h → (∀ b o, h.get? b = some o → h'.get? b = some o) → XP mg h')
    (hdef : defOf q r.name = some (d, kwd)) (hp : r.prog.theDef r.name = some (d.params, d.body, d.scope)) (hk : kwWritten? d.params.kwonlyargs d.params.kw_defaults = some kwd) (hwr : (!r.writes || r.records.isEmpty) = true)
    (k1 : r.wellSaid = true) (hch : chainsOk q = true) (ow : opensWell r.prog = true) (fr : frees r.toRowW = true) (hwi : r.within = []) (hb : r.prog.bare) (hw : r.toRowW.promised)
    (ask : AskC q loose XP H.says r.toRowW d kwd) : r.Holds := by
  obtain ⟨hsame, hu, ha, hap, hm⟩ := frees_parts fr
  have beh := left.behind (XP := fun mg h => XP mg h ∧ RecFacts r.records h) hX hch
  refine ⟨k1, hw, ⟨hb, ow, by show r.toRowW.makers.map _ = []; rw [hm]; rfl⟩, hw.witness, fun w => ⟨(beh w).1, fun s' hs' => ?_⟩⟩
  obtain ⟨s₀, hf, hg0, s, hT, hz, hgens, hg, G, y⟩ := (beh w).2 s' hs'
  have hT' := hT
  have R₀ := G.X.2
  have G0 : Ground q loose [] XP w s (s.heap.nsMap mainGlobals) (s.heap.nsMap builtinsNs) s.heap := ⟨G.T, G.B, G.D, G.TE, G.TD, G.W, G.X.1, G.cls, G.has, G.apart, G.once, G.K⟩
  have hgs : s.gens = #[] := Array.eq_empty_of_size_eq_zero (beq_iff_eq.mp hgens)
  have G1 : Ground q loose r.records XP w s _ _ s.heap := R₀.ground G0
  refine ⟨s₀, hf, hg0, s, hT, fun n hn => ?pin, R₀.1, R₀.2.1, ?go⟩
  case pin =>
    have e : n = r.name := by split at hn <;> simp_all
    subst e
    exact pinned_of_view hg G0 hdef hp hk
  intro args hpre hlay ord hord
  obtain ⟨⟨vs, s₁⟩, hlaid⟩ := Option.isSome_iff_exists.mp (layAllW_isSome (P := w.params) (ord := ord) G1.has args r.toRowW.args s (pre_splitW hpre).1)
  have keeps := layAllW_keeps _ _ _ hlaid
  have rest := layAllW_rest _ _ _ hlaid
  obtain ⟨as, hrd, hin, hold⟩ := reads_layAllW hord _ _ _ hlaid hlay s₁.heap (fun _ _ e => e)
  have L : Laid r.toRowW.records w s s₁ args vs as := ⟨⟨ord, hord, hlaid⟩, hrd, hin, hold, keeps, rest.1.trans hgs, rest.2.2.1⟩
  have G2 := G1.keeps hXk keeps
  obtain ⟨a, o, pm, cd, doc, dV, kV, h1, h2, h3, h4, h5⟩ := G2.fn hdef
  have walked := ask w s s₁ _ _ G2 (H.keeps _ _ _ (H.of w s y) keeps) a o pm cd doc dV kV h2 h3 h4 h5 (defOf_name hdef ▸ h1) L.gens args vs as hpre hlay L.reads L.well (L.low G1.low)
  have whole := wpC_bindA (M := model r.prog w) (A := callerA) (E := fun _ _ => False) (f := fun x => match x with
      | some f => do ret (← PySem.call f vs)
      | none => unsupported "claim.caller:no-such-global") (m := nsGet mainNs r.name)
      (Q := fun fin s' => ∃ v, fin = .done (.ret v) ∧ GoodW r.toRowW.claim (classAt s.heap) (ExcName.means s.heap) args s₁ (.ok (.ret v)) s')
      (wpAny_nsGet G2.T.g (by rw [h1]; exact wpC_bind (wpC_mono walked (fun v s' g => wpC_pure ⟨v, rfl, g⟩) fun _ _ x => x)))
  have atTop := whole ⟨.builtin "claim.caller" {}, none, none, [], none⟩ default caller_in ⟨okCode_caller, fun _ h => nomatch h⟩
  obtain ⟨n, res, s₃, s₂, hs, hn, hfo, good⟩ := wp_halts_full (M := model r.prog w) (R := fun res s' => GoodW r.toRowW.claim (classAt s.heap) (ExcName.means s.heap) args s₁ res s') (Shared.asleep_of_life rest.2.2.2 hz)
    (Sem.wp_mono _ _ _ (fun fin p' s' h' => by
      obtain ⟨v, rfl, g⟩ := h'
      exact ⟨g, by rw [g.2.2.2]; simp [leftWithCleanup]⟩) (fun _ _ _ h' => h'.elim) _ _ atTop)
  obtain ⟨eh, _, _, eo, _⟩ := Shared.forget_eq hfo
  have z := good.toG.laid (c := r.toRowW.claim) hsame hwi (ident_freeW hu ha hap) L
  have lifeEq : s₂.heap.life = s.heap.life := (runN_life _ _ _ hn).trans rest.2.2.2
  refine ⟨vs, s₁, hlaid, n, _, s₂, hs, ?_, (fun _ i x hx => by rw [hgs] at hx; simp at hx), ?_, by rw [lifeEq], Shared.rest_eq (eo.trans z.2.1)⟩
  · rcases z.1.congr eh with ⟨v, rfl, d1, d2, d3, d4, d5⟩ | ⟨e, ob, cls, rfl, d1, d2, d3, d4, d5⟩
    · exact .inl ⟨v, rfl, d1, d2, d3, fun b o y _ => d4 b o y, d5⟩
    · exact .inr ⟨e, ob, cls, rfl, d1, d2, d3, d4, fun b o y _ => d5 b o y⟩
  · intro q
    rw [eh]
    exact ⟨namesKept_of hT' hg _ keeps good.toG.2.1.old, noTable hwr q⟩

end Mine

/-! LitL -/
namespace Mine
open PySem PySem.W PyProof.Rows PySem.Calls PySem.Spec
set_option maxRecDepth 100000
example : True := by (w_top off); trivial
/-! ## a written table of rows of numbers; the tests of a law's body -/
def Mark : Prop := True
inductive Nums : List Expr → List Nat → Prop
  | nil : Nums [] []
  | cons {i : Int} {k : Nat} {pos : Pos} {r : List Expr} {ns : List Nat} (n : Nat) (h : i = (n : Int)) : Nums r ns → Nums (.Constant (.int i) k pos :: r) (n :: ns)
inductive RowsLit : List Expr → List (List Nat) → Prop
  | nil : RowsLit [] []
  | cons {es : List Expr} {pos : Pos} {r : List Expr} {ns : List Nat} {nss : List (List Nat)} : Nums es ns → ns.length ≤ 100 → RowsLit r nss → RowsLit (.List es pos :: r) (ns :: nss)
def RowVals (vs : List Value) (objs : List (Addr × Obj)) (nss : List (List Nat)) : Prop :=
  vs.length = nss.length ∧ ∀ (j : Nat) (p : List Nat), nss[j]? = some p → ∃ (a : Addr) (ws : List Value), vs[j]? = some (.ref a) ∧ (a, listOf (List.toArray ws) 0) ∈ objs ∧ IntsAre ws (p.map Int.ofNat)
section
variable {prog : Program} {w : World} {A : Around} {E : Value → Shared → Prop} {env : Env} {h₀ : Heap} {L : Addr} {m : Str → Option Value}
theorem nums_lit {pos : Pos} : ∀ {es : List Expr} {ns : List Nat}, Nums es ns → ∀ {s : Shared} {Q : List Value → Shared → Prop}, (∀ vs tk, IntsAre vs (ns.map Int.ofNat) → Q vs { s with toks := tk }) →
    wpAny (model prog w) A (spliced (backTo pos (starEach es env))) Q E s
  | _, _, .nil, s, Q, h => spliced_none (h [] s.toks .nil)
  | _, _, .cons n hn r, s, Q, h => by
    subst hn
    refine spliced_more (wpAny_Constant_int ?_) rfl
    exact nums_lit r fun vs tk hv => h _ tk (.cons _ _ hv)
theorem rows_lit {pos : Pos} : ∀ {es : List Expr} {nss : List (List Nat)}, RowsLit es nss → ∀ {s : Shared} {Q : List Value → Shared → Prop} {news : List (Addr × Obj)}, Fr h₀ L s.heap m → News h₀ L s.heap news →
    (∀ vs h' tk objs, Fr h₀ L h' m → News h₀ L h' (objs ++ news) → RowVals vs objs nss → Q vs { s with heap := h', toks := tk }) →
    wpAny (model prog w) A (spliced (backTo pos (starEach es env))) Q E s
  | _, _, .nil, s, Q, news, F, N, h => spliced_none (h [] s.heap s.toks [] F N ⟨rfl, fun j p hp => nomatch hp⟩)
  | _, _, .cons hn hl r, s, Q, news, F, N, h => by
    refine spliced_more (List_ (nums_lit hn fun ws tk hw => ?_)) rfl
    refine newList_N (s := { s with toks := tk }) F N (hsz := by rw [hw.length, List.length_map]; show _ ≤ 2 ^ 24; omega) (fun h' F' N' => ?_)
    refine rows_lit r (s := { s with heap := h', toks := tk }) F' N' fun vs h'' tk'' objs F'' N'' hv => ?_
    refine h _ h'' tk'' (objs ++ [(s.heap.objs.size, listOf ws.toArray 0)]) F'' (by rw [List.append_assoc]; exact N'') ⟨by rw [List.length_cons, List.length_cons, hv.1], fun j p hp => ?_⟩
    cases j with
    | zero => cases hp; exact ⟨_, ws, rfl, List.mem_append.mpr (.inr (List.mem_singleton.mpr rfl)), hw⟩
    | succ j =>
      obtain ⟨a, us, h1, h2, h3⟩ := hv.2 j p hp
      exact ⟨a, us, h1, List.mem_append.mpr (.inl h2), h3⟩
theorem table_lit {pos : Pos} {es : List Expr} {nss : List (List Nat)} (hr : RowsLit es nss) {s : Shared} {Q : Value → Shared → Prop} {news : List (Addr × Obj)} (F : Fr h₀ L s.heap m) (N : News h₀ L s.heap news) (hl : nss.length ≤ 1000)
    (h : ∀ P vs h' tk objs, Fr h₀ L h' m → News h₀ L h' ((P, listOf (List.toArray vs) 0) :: (objs ++ news)) → RowVals vs objs nss → Q (.ref P) { s with heap := h', toks := tk }) :
    wpAny (model prog w) A (eval (.List es pos) env) Q E s := by
  refine List_ (rows_lit hr F N fun vs h' tk objs F' N' hv => ?_)
  refine newList_N (s := { s with heap := h', toks := tk }) F' N' (hsz := by rw [hv.1]; show _ ≤ 2 ^ 24; omega) (fun h'' F'' N'' => ?_)
  exact h _ vs h'' tk objs F'' N'' hv
end
section
variable {M : Model} {A : Around} {E : Value → Shared → Prop} {s : Shared} {env : Env}
theorem wpAny_oper {vs : List Value} {m : Sem Value} {Q : Value → Shared → Prop} (h : wpAny M A m Q E s) : wpAny M A (operate vs m) Q E s := fun Γ p hΓ => by rw [Sem.wp_operate]; exact h Γ p hΓ
/-- if f(..) op x: the call over clean stacks, the rest with the library's rules -/
theorem wpC_If_cmp {l r : Expr} {op : CmpOp} {pos pos' : Pos} {body orelse : List Stmt} {Q : Flow → Shared → Prop}
    (h : wpC M A (eval l env) (fun a s₁ => wpAny M A (eval r env) (fun b s₂ => wpAny M A (compareOp op a b) (fun c s₃ => wpAny M A (truthy c)
      (fun t s₄ => if t = true then wpC M A (execs body env) Q E s₄ else wpC M A (execs orelse env) Q E s₄) E s₃) E s₂) E s₁) E s)
    (hm : behindInMarks op r = false) : wpC M A (exec (.If (.Compare l [op] [r] pos) body orelse pos') env) Q E s := by
  rw [exec_If]
  refine wpC_bindA (wpAny_standAt (wpC_bind ?_))
  rw [isTrue_Compare1, markedBehindIn_of_false hm]
  refine wpC_bind (wpC_mono h (fun a s₁ h₁ => wpC_of ?_) fun _ _ x => x)
  refine wpAny_bind (wpAny_holding (wpAny_mono h₁ (fun b s₂ h₂ => ?_) fun _ _ x => x))
  refine wpAny_bind (wpAny_standAt (wpAny_bind (wpAny_oper (wpAny_mono h₂ (fun c s₃ h₃ => ?_) fun _ _ x => x))))
  refine wpAny_holding (wpAny_mono h₃ (fun t s₄ h₄ => ?_) fun _ _ x => x)
  cases t with
  | true => exact h₄
  | false => exact h₄
end
/-! two made lists of texts -/
theorem strs_shaped {xs : List Str} (h : ∀ x ∈ xs, PyData.strOk x = true) : SeqAt.shaped (.list (xs.map PyData.str)) = true := by
  have h1 : ∀ xs : List Str, (∀ x ∈ xs, PyData.strOk x = true) → PyData.canLayAll0 (xs.map PyData.str) = true := by
    intro xs
    induction xs with
    | nil => intro _; rfl
    | cons x r ih =>
      intro h
      simp only [List.map_cons, PyData.canLayAll0, PyData.canLay0, h x (List.mem_cons_self ..), ih fun y hy => h y (List.mem_cons_of_mem _ hy), Bool.and_true]
  have h2 : ∀ xs : List Str, PyData.depthAll (xs.map PyData.str) = 0 := by
    intro xs
    induction xs with
    | nil => rfl
    | cons x r ih => simp [PyData.depthAll, PyData.depth, ih]
  simp [SeqAt.shaped, PyData.canLay0, PyData.depth, h1 xs h, h2 xs]
theorem ne_strs_same {prog : Program} {w : World} {A : Around} {E : Value → Shared → Prop} {s : Shared} {a b : Addr} {xs ys : List Value} {ss : List Str} {Q : Value → Shared → Prop}
    (ha : s.heap.IsList a xs.toArray) (hb : s.heap.IsList b ys.toArray) (hi : StrsAre xs ss) (hj : StrsAre ys ss) (hok : ∀ x ∈ ss, PyData.strOk x = true) (hu : A.units + 64 < cLine) (h : Q (.bool false) s) :
    wpAny (model prog w) A (compareOp .NotEq (.ref a) (.ref b)) Q E s :=
  ne_dataH_same (reads_newData ha (by simpa using hi.carried)) (reads_newData hb (by simpa using hj.carried)) (strs_shaped hok) (strs_shaped hok) hu (SeqAt.noMix_of_shape (.list .str) rfl _ _ (list_map_has fun _ => rfl) (list_map_has fun _ => rfl))
    (by rw [PySem.Spec.same_self]; exact h)
end Mine

/-! CompE -/
namespace Mine
open PySem PySem.W PyProof.Rows PySem.Calls PySem.Spec
set_option maxRecDepth 100000
set_option maxHeartbeats 800000
example : True := by (w_top off); trivial
open LCg
section
variable {prog : Program} {w : World} {A : Around} {E : Value → Shared → Prop} {s : Shared} {h₀ : Heap} {L : Addr} {m : Str → Option Value} {env : Env}
/-- [elt for x in a list that is kept], as a value -/
theorem comp_eval_list {elt iter : Expr} {ifs : List Expr} {x : Str} {px : Pos} {scope : Scope} {cl : List (Str × Addr)} {pos pos' : Pos} {Q : Value → Shared → Prop} {news : List (Addr × Obj)} {ax : Addr} {its : Array Value}
    (hclos : closureFor scope env = pure cl) (hcell : ∀ y ∈ scope.names, y.2 ≠ .cell) (hkind : scope.kind = .function)
    (hnames : ∀ y ∈ scope.names, y.2 = .local → scope.names.lookup y.1 = some .local) (hx : scope.names.lookup x = some .local)
    (hs : ∀ x, foldedSetIterable iter env x = pure x)
    (J : Nat → List Value → Prop) (hh : A.handled = none)
    (hK : ∀ h, Fr h₀ L h m → News h₀ L h news → h.IsList ax its)
    (F : Fr h₀ L s.heap m) (N : News h₀ L s.heap news) (hn : its.size ≤ 1000000) (hJ0 : J 0 [])
    (turn : ∀ i v ys I oI C oC D m₂ h t₁, i < its.size → its[i]? = some v → J i ys → NsObj oC m₂ → m₂ x = some v → Fr h₀ L h m → News h₀ L h ((I, oI) :: (C, oC) :: (D, lst ys) :: news) → Off3 I C D news → ((@Ne Nat I C) ∧ (@Ne Nat I D) ∧ (@Ne Nat C D)) →
      wpAny (model prog w) A (forIn ifs true fun c r => if r = true then do let ok ← isTrue c (compEnvC scope cl C env) (eval c (compEnvC scope cl C env)); pure (ForInStep.yield ok) else pure (ForInStep.yield r)) (fun ok s₃ =>
        if ok = true then wpAny (model prog w) A (eval elt (compEnvC scope cl C env)) (fun y s' => ∃ h' tk', s' = { s with heap := h', toks := tk' } ∧ Fr h₀ L h' m ∧ News h₀ L h' ((I, oI) :: (C, oC) :: (D, lst ys) :: news) ∧ J (i + 1) (ys ++ [y])) (fun _ _ => False) s₃
        else ∃ h' tk', s₃ = { s with heap := h', toks := tk' } ∧ Fr h₀ L h' m ∧ News h₀ L h' ((I, oI) :: (C, oC) :: (D, lst ys) :: news) ∧ J (i + 1) ys) (fun _ _ => False) { s with heap := h, toks := t₁ })
    (fin : ∀ D h tk ys, J its.size ys → ys.length ≤ its.size → Fr h₀ L h m → News h₀ L h ((D, lst ys) :: news) → Off1 D news → Q (.ref D) { s with heap := h, toks := tk }) :
    wpAny (model prog w) A (comprehension (.ListComp elt [⟨.Name x px, iter, ifs, 0⟩] scope pos) scope env pos' (newList []) false (pure (.ref ax))) Q E s := by
  have hn24 : its.size ≤ sizeLine := by show its.size ≤ 2 ^ 24; omega
  refine wpAny_comprehension_free (use := none) rfl hs hclos hkind hnames (wpAny_pure (wpAny_pyIter_list (hK _ F N) ?_))
  refine comp_core (o0 := { cls := .type "list_iterator", data := .fields #[.ref ax, .int 0 0] }) (lo := 0) (St := fun I i h => h.IsListIter I ax i) (K := fun h => h.IsList ax its) hcell hkind hx J (WalkK.list hh _ ax its) hK ⟨_, Heap.get?_push_size _ rfl, rfl, rfl⟩ F N hn24 (Nat.zero_le _) hJ0 ?_ ?_
  · intro i v ys I oI C oC D m₂ h t₀ t₁ hi hP _ _ hJ hoC hm F N off ne
    exact turn i v ys I oI C oC D m₂ h t₁ hi hP hJ hoC hm F N off ne
  · intro D C h tk ys m' hJ _ hyl F' N' off hn' hC₀ hCL hDC offC
    refine ⟨m', hn', fun h'' hs'' => fin D h'' tk ys hJ hyl (F'.change hs'' hCL hC₀) (fun p hp => ?_) off⟩
    have z := N' p hp
    have qC : p.1 ≠ C := by
      rcases List.mem_cons.mp hp with rfl | hp
      · exact hDC
      · exact offC p hp
    exact ⟨hs''.extBut _ _ qC z.1, z.2⟩
end
theorem list_ne_cell {h₀ h : Heap} {L a c : Addr} {news : List (Addr × Obj)} {xs : Array Value} {n : Nat} {o : Obj} {v : Option Value} (N : News h₀ L h news) (ha : (a, listOf xs n) ∈ news) (hc : (c, o) ∈ news) (hd : o.data = .cell v) : a ≠ c := fun q => by
  have h1 := (N _ ha).1
  have h2 := (N _ hc).1
  dsimp only at h1 h2
  rw [q, h2] at h1
  cases h1
  cases hd
end Mine

/-! Law0 -/
namespace Mine
open PySem PySem.W PyProof.Rows PySem.Calls PySem.Spec
set_option maxRecDepth 100000
set_option maxHeartbeats 8000000
set_option pp.maxSteps 20000
set_option pp.deepTerms false
set_option pp.deepTerms.threshold 6
example : True := by (w_top off); trivial
theorem enterTop {prog : Program} {w : World} {A : Around} {R : Result → Shared → Prop} {s : Shared} {name : Str} {params : Arguments} {body : List Stmt} {scope : Scope} {pm cd doc dV kV : Value} {a : Addr} {o : Obj} {args : List Value} {binds : List (Str × Value)}
    (hroom : A.depth < recursionLimit) (ho : s.heap.get? a = some o) (hd' : o.data = .func { docDef name params body scope pm cd doc with defaults := dV, kwdefaults := kV }) (hlim : s.heap.NoLimit) (hcd : s.heap.CodeRec cd name)
    (hbind : bindArgs { docDef name params body scope pm cd doc with defaults := dV, kwdefaults := kV } ⟨args, []⟩ = pure binds) (hkind : (binds.all fun y => scope.names.lookup y.1 == some .local || scope.names.lookup y.1 == some .cell) = true)
    (hnd : ((cellsFrom 0 scope.names []).map (·.1)).Nodup)
    (h : ∀ L' h₁ tk cells, s.toks ≤ tk → Fr s.heap L' h₁ (bindL (envOfC name scope L' a cd).kindOf binds fun _ => none) → News s.heap L' h₁ cells →
      CellsAre (bindC (envOfC name scope L' a cd).kindOf binds fun _ => none) (cellsFrom (L' + 1) scope.names []) cells →
      wpC (model prog w) (A.deeper (envOfC name scope L' a cd)) (execs body (envOfC name scope L' a cd)) (fun fl s' => R (.ok (.ret (match fl with | .ret v => v | _ => .none))) s') (fun _ _ => False) { s with heap := h₁, toks := tk })
    (hco : scope.isCoroutine = false) (hgen : scope.isGenerator = false) (hk : scope.kind = .function) : codeC (model prog w) A (.call (.ref a) ⟨args, []⟩) R s := by
  refine codeC_call_function (fd := { docDef name params body scope pm cd doc with defaults := dV, kwdefaults := kV }) hroom ho hd' hco hgen rfl hcd (hbind ▸ wpAny_pure ?_)
  refine wpAny_tk (wpAny_newFunctionEnv_cells hk (kindsX hkind _) fun env' he s' x htk => ?_)
  subst he
  refine ⟨hlim.keeps x.toInCall.keep, codeC_func ?_⟩
  obtain ⟨h₁, tk, rfl, _⟩ := x.done
  have hk₁ := x.toInCall.keep
  obtain ⟨cells, NC, Y⟩ := Cl.news (h₀ := s.heap) (Nat.le_refl _) fun n c hm => ⟨x.cell n c (lookup_of_mem_nodup (cellsFrom_names scope.names 0 (s.heap.objs.size + 1) [] [] rfl ▸ hnd) hm), x.above n c hm⟩
  exact h s.heap.objs.size h₁ tk cells htk ⟨x.toInCall.ns, hk₁, Nat.le_refl _⟩ NC Y
local macro_rules | `(tactic| walk_at "call ref") => `(tactic| (refine wpAny_halt ?_))
local macro_rules | `(tactic| walk_at "subscriptTail Name BinOp ref int") => `(tactic| (refine wpAny_halt ?_))
local macro_rules | `(tactic| walk_at "compareOp NotEq ref ref") => `(tactic| (refine wpAny_halt ?_))
local macro_rules | `(tactic| walk_at "compareOp Eq ref ref") => `(tactic| (refine wpAny_halt ?_))
local macro_rules | `(tactic| walk_at "subscriptTail Name UnaryOp ref int") => `(tactic| (refine wpAny_halt ?_))
local macro_rules | `(tactic| walk_at "eval ListComp") => `(tactic| (refine listComp_first (wpAny_stop ?_)))
local macro_rules | `(tactic| walk_at "eval List") => `(tactic| ((with_reducible rename Mark => mark9); refine wpAny_halt ?_))
def pairingsL : List (List Nat) := [[0, 1, 2, 3], [1, 0, 2, 3], [2, 1, 0, 3], [3, 1, 2, 0], [0, 2, 1, 3], [0, 3, 2, 1], [0, 1, 3, 2], [1, 0, 3, 2], [2, 3, 0, 1], [3, 2, 1, 0]]
theorem pairings_good {j : Nat} (hj : j < 10) : pairingsL[j]? = some (pairingsL.getD j []) ∧ (pairingsL.getD j []).length = 4 ∧ (∀ x ∈ pairingsL.getD j [], x < 4) ∧ Turns (pairingsL.getD j []) := by
  have h : ∀ j < 10, (pairingsL.getD j []).length = 4 ∧ (∀ x ∈ pairingsL.getD j [], x < 4) ∧ ∀ k < 4, (pairingsL.getD j []).getD k 0 < 4 ∧ (pairingsL.getD j []).getD ((pairingsL.getD j []).getD k 0) 0 = k := by decide +kernel
  refine ⟨?_, (h j hj).1, (h j hj).2.1, (h j hj).2.2⟩
  rw [List.getD_eq_getElem?_getD, List.getElem?_eq_getElem (show j < pairingsL.length from hj)]
  rfl
theorem str_beq {a b : List Nat} : ((⟨a.toArray⟩ : Str) == ⟨b.toArray⟩) = (a == b) := by
  by_cases h : a = b
  · subst h; simp
  · have h2 : (⟨a.toArray⟩ : Str) ≠ ⟨b.toArray⟩ := fun q => h (by have := congrArg (fun x : Str => x.cps.toList) q; exact this)
    rw [beq_eq_false_iff_ne.mpr h, beq_eq_false_iff_ne.mpr h2]
theorem law_ask {as' : List Addr} {e' : ∀ P, as' = (hd.heap_39 P).map (·.1)} {d : DefRec} {kwd : List (Str × Expr)} (e : defOf hd.view_39 PySem.Challenge.rw_wo0013_01.row.name = some (d, kwd)) :
    AskC hd.view_39 [] (XL hd.view_39 []) (kHook hd.heap_39 as' e').says PySem.Challenge.rw_wo0013_01.row.toRowW d kwd := by
  have e1 : some (_, _) = some (d, kwd) := e
  cases e1
  clear e
  intro w s₀ s₁ mg mb G Y fa o pm cd doc dV kV ho hd' hcd hD hmg hg args vals as hpre hlay hrd hwl hlo
  have KX := kIn_of Y
  refine Ground.open G ?_
  intro T B D TE TW
  wrow_args hpre hlay hrd hwl hlo
  have K0 := below_caller s₁.heap
  have he := Dflts.none hD rfl
  subst he
  have he := Dflts.noKw hD
  subst he
  refine wpC_call ?_
  (refine' enterTop ?k1 ho hd' (Top.nolimit T) hcd ?k9 ?kB ?kD ?_ ?c2 ?c3 ?c4; (case k1 => decide); (case k9 => rfl); (case kB => exact rfl); (case kD => decide +kernel); (case c2 => exact rfl); (case c3 => exact rfl); (case c4 => exact rfl))
  intro L' h₁ tk₁ cells htk₁ F N Y
  k_cells Y
  rename_i oi ow os di dw ds
  change oi.data = .cell none at di
  change ow.data = .cell none at dw
  change os.data = .cell (some (.ref _)) at ds
  rename_i ns _ _ _ _ _ _ _ la vs _ hL _ _ _ hI _ hlen _
  have ret : ∀ h' tk, (∀ b o, s₁.heap.get? b = some o → h'.get? b = some o) → GoodW PySem.Challenge.rw_wo0013_01.row.toRowW.claim (classAt s₀.heap) (ExcName.means s₀.heap) [ofPy (PyData.list (List.map PyData.int ns))] s₁ (.ok (.ret (.bool true))) { s₁ with heap := h', toks := tk } := by
    intro h' tk hk
    refine ⟨Or.inl ⟨.bool true, ofPy (.bool true), [], rfl, fun _ => rfl, ?_, ?_, ?_⟩, hk, rfl, hg⟩
    · exact ReadsW.bool _
    · first | rfl | wrow_post
    · exact fun _ => ⟨List.nodup_nil, fun _ h => nomatch h⟩
  have hlen : ns.length ≤ 63 := by omega
  clear ho hcd hmg hd' hD G Y B D TE TW
  dsimp only at F N ⊢
  have hcnt := hI.length
  refine wpC_execs_any (wpAny_mono (Q := fun f s' => f = .next ∧ ∃ h' tk D ys dsn n0 m', s' = { s₁ with heap := h', toks := tk } ∧ Fr s₁.heap L' h' m' ∧ m' "draws" = some (.ref D) ∧ News s₁.heap L' h' [(D, listOf (List.toArray ys) n0), (L' + 1 + 1 + 1, oi), (L' + 1 + 1, ow), (L' + 1, os)] ∧ IntsAre ys dsn ∧ (dsn.length = 5 ∨ dsn.length = 6) ∧ ∀ d ∈ dsn, 0 ≤ d ∧ d < 2000000) (wpAny_stop ?draws) ?rest fun _ _ x => x)
  case draws =>
    refine exec_Assign_comp (by with_unfolding_all rfl) (wpAny_stop ?_)
    k_steps
    rename IsRange _ _ _ _ _ _ _ _ => R2
    rename Fr s₁.heap _ _ _ => F2
    rename News s₁.heap _ _ _ => N2
    show wpAny _ _ _ _ _ _
    have en : (5 : Int) + ((ns.length : Int)).fmod 2 = ((5 + ns.length % 2 : Nat) : Int) := by
      rw [Int.fmod_eq_emod_of_nonneg _ (by omega)]; omega
    rw [en] at R2
    have hn2 : 5 + ns.length % 2 = 5 ∨ 5 + ns.length % 2 = 6 := by omega
    generalize 5 + ns.length % 2 = n at *
    refine comp_use_range rfl rfl rfl (by with_unfolding_all rfl) (by decide) (by rfl) (by decide) (by rfl) (by intro _; with_unfolding_all rfl) (fun k ys => ∃ dsn, IntsAre ys dsn ∧ dsn.length = k ∧ ∀ d ∈ dsn, 0 ≤ d ∧ d < 2000000) rfl R2 F2 N2 (by omega) ⟨[], .nil, rfl, by simp⟩ ?turnD ?finD
    case turnD =>
      rintro k v qs I oI C oC D m₂ h3 tk3 hk ⟨tq, rfl⟩ ⟨dsn, hqs, hdl, hdb⟩ hoC hm F3 N3 off ne
      simp only [LCg.Off3, and_true] at off
      refine wpAny_pure ?_
      simp only [if_true]
      refine wpAny_stop ?_
      k_steps
      rename Fr s₁.heap _ _ _ => F4
      rename News s₁.heap _ _ _ => N4
      refine LSm.sum_ints F4 N4 rfl (vs := (slicePick vs.toArray _ _ _).toList) (by rw [Array.toArray_toList]; exact ⟨_, (N4 _ (List.mem_cons_self ..)).1, rfl, _, rfl⟩) (hI.pick _ _ _) (fun h5 tk5 t5 F5 N5 => ?_)
      generalize (pickNums ns _ _ _).sum = tot
      k_steps
      unfold Stop
      refine ⟨_, _, rfl, F5, fun p hp => N5 p (List.mem_cons_of_mem _ (List.mem_cons_of_mem _ hp)), ?_⟩
      clear F5 N5
      refine ⟨dsn ++ [_], hqs.append (.cons _ _ .nil), by rw [List.length_append, hdl]; rfl, fun d hd => ?_⟩
      rcases List.mem_append.mp hd with hd | hd
      · exact hdb d hd
      · rw [List.mem_singleton.mp hd]
        have hx : ∀ k < 6, 0 ≤ ([2, 0, 2, 0, 1, 3] : List Int).getD k 0 ∧ ([2, 0, 2, 0, 1, 3] : List Int).getD k 0 ≤ 3 := by decide
        have h1 := hx k (by omega)
        have h2 : 0 ≤ tot.fmod (10 ^ Int.toNat 6) ∧ tot.fmod (10 ^ Int.toNat 6) < 1000000 := by
          rw [show (10 : Int) ^ Int.toNat 6 = 1000000 from by decide, Int.fmod_eq_emod_of_nonneg _ (by omega)]
          omega
        rw [Int.toNat_natCast]
        omega
    case finD =>
      rintro D h3 tk3 ys ⟨dsn, hqs, hdl, hdb⟩ hyl F3 N3 off
      exact ⟨trivial, _, _, D, ys, dsn, _, _, rfl, F3, rfl, N3, hqs, by omega, hdb⟩
  case rest =>
    rintro f s' ⟨rfl, h2, tk2, D, ys, dsn, n0, m2, rfl, F2, md, N2, hys, hdl, hdb⟩
    clear F N
    replace F2 := frKnown F2 [("draws", .ref D)] (by intro p hp; simp only [List.mem_cons, List.not_mem_nil, or_false] at hp; rcases hp with rfl; exact md)
    show wpC _ _ _ _ _ _
    try dsimp only at F2 N2
    refine wpC_execs_any (wpAny_stop ?_)
    k_steps
    rename Fr s₁.heap _ _ _ => F3
    rename News s₁.heap _ _ _ => N3
    show wpC _ _ _ _ _ _
    dsimp only at F3 N3 ⊢
    obtain ⟨b, hb01, hb⟩ : ∃ b : Nat, (b = 0 ∨ b = 1) ∧ (dsn.getD (Int.toNat 0) 0).fmod 2 = (b : Int) := by
      rw [Int.fmod_eq_emod_of_nonneg _ (by omega)]
      refine ⟨((dsn.getD (Int.toNat 0) 0) % 2).toNat, by omega, by omega⟩
    rw [hb] at F3
    replace F3 := frKnown F3 [("draws", .ref D), ("which", .int b _)] (by intro p hp; simp only [List.mem_cons, List.not_mem_nil, or_false] at hp; rcases hp with rfl | rfl <;> rfl)
    refine wpC_execs_cons ?_
    refine wpC_Assign_Name ?_ ?hs1
    case hs1 => rfl
    refine wpC_of ?_
    refine' table_lit (nss := pairingsL) ?rows ?tF ?tN ?tl ?tk
    case tF => exact F3
    case tN => exact N3
    case tl => decide
    case rows =>
      repeat first
        | exact RowsLit.nil
        | exact Nums.nil
        | (refine RowsLit.cons ?_ (by decide) ?_)
        | (refine Nums.cons _ (by rfl) ?_)
    case tk =>
    intro P pvs h4 tk4 objs F4 N4 hrv
    clear F3 N3
    refine wpAny_stop ?_
    k_steps
    rename Fr s₁.heap _ _ _ => F5
    rename News s₁.heap _ _ _ => N5
    show wpC _ _ _ _ _ _
    dsimp only at F5 N5 ⊢
    replace F5 := frKnown F5 [("pairings", .ref P), ("draws", .ref D), ("which", .int b _)] (by intro p hp; simp only [List.mem_cons, List.not_mem_nil, or_false] at hp; rcases hp with rfl | rfl | rfl <;> rfl)
    refine wpC_execs_any (wpAny_stop ?_)
    k_steps
    refine' item_list_ints (vs := ys) (ns := dsn) ?dl ?di (by decide) (by omega) (by decide) (fun t6 => ?_) ?d1 ?d2
    case dl => exact isList_of (r := D) (its := ys.toArray) (n := n0) N5 (by simp)
    case di => exact hys
    case d1 => with_unfolding_all rfl
    case d2 => intro _; with_unfolding_all rfl
    obtain ⟨j, hj, hje⟩ : ∃ j : Nat, j < 10 ∧ ((dsn.getD (Int.toNat 0) 0).fdiv 2).fmod 10 = (j : Int) := by
      rw [Int.fmod_eq_emod_of_nonneg _ (by omega)]
      exact ⟨(((dsn.getD (Int.toNat 0) 0).fdiv 2) % 10).toNat, by omega, by omega⟩
    k_steps
    rw [hje]
    show wpAny _ _ _ _ _ _
    obtain ⟨hget, hpn, hp4, hpt⟩ := pairings_good hj
    generalize pairingsL.getD j [] = pp at *
    obtain ⟨pl, pws, hpv, hpm, hpi⟩ := hrv.2 j pp hget
    refine' item_list (items := pvs.toArray) (x := .ref pl) ?pl (Int.natCast_nonneg _) (by omega) ?px ?pk ?p1 ?p2
    case pl => exact isList_of (r := P) (its := pvs.toArray) (n := 0) N5 (by simp)
    case px => rw [Int.toNat_natCast, List.getElem?_toArray]; exact hpv
    case p1 => with_unfolding_all rfl
    case p2 => intro _; with_unfolding_all rfl
    case pk =>
    k_steps
    rename Fr s₁.heap _ _ _ => F6
    rename News s₁.heap _ _ _ => N6
    show wpC _ _ _ _ _ _
    dsimp only at F6 N6 ⊢
    replace F6 := frKnown F6 [("partners", .ref pl), ("draws", .ref D), ("which", .int b _)] (by intro p hp; simp only [List.mem_cons, List.not_mem_nil, or_false] at hp; rcases hp with rfl | rfl | rfl <;> rfl)
    replace N6 : News s₁.heap L' _ [(pl, listOf (List.toArray pws) 0), (D, listOf (List.toArray ys) n0), (L' + 1 + 1 + 1, oi), (L' + 1 + 1, ow), (L' + 1, os)] := fun p hp => N6 p (by
      simp only [List.mem_cons, List.mem_append, List.not_mem_nil, or_false] at hp ⊢
      rcases hp with rfl | h | h | h | h
      · exact .inr (.inl hpm)
      all_goals simp [h])
    clear hrv hpm hpv hget hje hj
    refine wpC_execs_any (wpAny_tk ?_)
    refine exec_Assign_comp (by with_unfolding_all rfl) (wpAny_stop ?_)
    k_steps
    dsimp only
    rename Fr s₁.heap _ _ _ => F7
    rename News s₁.heap _ _ _ => N7
    rename IntsAre _ (List.drop 1 dsn) => hi7
    rename_i D7 ws7 h7 hc7 hl7 l7
    clear l7
    show wpAny _ _ _ _ _ _
    refine comp_use_list (its := ws7.toArray) rfl rfl rfl (by with_unfolding_all rfl) (by decide) (by rfl) (by decide) (by rfl) (by intro _; with_unfolding_all rfl) (fun k ys => ∃ ls : List Nat, IntsAre ys (ls.map Int.ofNat) ∧ ls.length = k ∧ ∀ x ∈ ls, x < 4) rfl (fun h F N => isList_of (r := D7) (n := 0) N (by simp)) F7 N7 (by rw [List.size_toArray, hi7.length]; omega) ⟨[], .nil, rfl, by simp⟩ ?turnL ?finL
    case turnL =>
      rintro k v qs I oI C oC D2 m₂ h8 tk8 hk hv ⟨ls, hqs, hll, hl4⟩ hoC hm F8 N8 off ne
      simp only [LCg.Off3, and_true] at off
      rw [List.getElem?_toArray] at hv
      obtain ⟨n, t, rfl, hn⟩ := hi7.at k _ hv
      refine wpAny_pure ?_
      simp only [if_true]
      refine wpAny_stop ?_
      k_steps
      refine ⟨_, _, rfl, by assumption, by assumption, ls ++ [(n % 4).toNat], ?_, by rw [List.length_append, hll]; rfl, fun x hx => ?_⟩
      · rw [List.map_append]
        refine hqs.append ?_
        have e : n.fmod 4 = Int.ofNat (n % 4).toNat := by
          rw [Int.fmod_eq_emod_of_nonneg _ (by omega)]
          show n % 4 = (((n % 4).toNat : Nat) : Int)
          omega
        rw [e]
        exact .cons _ _ .nil
      · rcases List.mem_append.mp hx with hx | hx
        · exact hl4 x hx
        · rw [List.mem_singleton.mp hx]; omega
    case finL =>
    rintro D2 h8 tk8 lvs ⟨ls, hli, hll, hl4⟩ hql F8 N8 off
    clear off F7 N7
    rw [List.size_toArray, hi7.length] at hll
    replace hll : ls.length ≤ 5 ∧ 0 < ls.length := by omega
    clear hi7 hc7 hl7
    intro htk8
    show wpC _ _ _ _ _ _
    dsimp only at F8 N8 htk8 ⊢
    replace htk8 : 0 < tk8 := Nat.lt_of_lt_of_le (Nat.succ_pos _) htk8
    replace F8 := frKnown F8 [("letters", .ref D2), ("partners", .ref pl), ("which", .int b _)] (by intro p hp; simp only [List.mem_cons, List.not_mem_nil, or_false] at hp; rcases hp with rfl | rfl | rfl <;> rfl)
    have hpts : ∀ i, i ≤ ls.length → ((rowsL ls i).getD i []).length ≤ 31 := fun i hi => by
      have h1 := row_len ls i
      have h2 : 2 ^ i ≤ 2 ^ 5 := Nat.pow_le_pow_right (by omega) (by omega)
      omega
    refine wpC_execs_any (wpAny_tk (wpAny_stop ?_))
    k_steps
    refine' cop_spec w _ _ _ _ _ _ _ _ _ _ _ _ _ _ _ _ D2 lvs ls pl pws _ _ K0 F8 KX N8 T rfl ?kd1 ?ku1 pp ?kp1 hpi hpn hp4 ?kl1 hli hl4 ?kn1 ?kr1 ?kk1
    case kd1 => ktr_room
    case ku1 => ktr_units
    case kp1 => exact isList_of (n := 0) N8 (by simp)
    case kl1 => exact isList_of (n := lvs.length) N8 (by simp)
    case kn1 => omega
    case kr1 => exact fun i hi => Nat.le_trans (hpts i hi) (by omega)
    case kk1 =>
    intro Dt yst nt h9 tk9 hyst F9 N9
    clear F8
    k_steps
    unfold Stop
    intro htk10
    show wpC _ _ _ _ _ _
    rename Fr s₁.heap _ _ _ => F10
    rename News s₁.heap _ _ _ => N10
    dsimp only at F10 N10 htk10 ⊢
    replace htk10 := Nat.lt_of_lt_of_le htk8 htk10
    replace F10 := frKnown F10 [("told", .ref Dt), ("letters", .ref D2), ("partners", .ref pl), ("which", .int b _)] (by intro p hp; simp only [List.mem_cons, List.not_mem_nil, or_false] at hp; rcases hp with rfl | rfl | rfl | rfl <;> rfl)
    replace N10 : News s₁.heap L' _ [(Dt, listOf (List.toArray yst) nt), (D2, listOf (List.toArray lvs) lvs.length), (pl, listOf (List.toArray pws) 0), (L' + 1 + 1 + 1, oi), (L' + 1 + 1, ow), (L' + 1, os)] := fun p hp => N10 p (by
      simp only [List.mem_cons, List.not_mem_nil, or_false] at hp ⊢
      rcases hp with h | h | h | h | h | h
      · exact .inl h
      · exact .inr (.inl h)
      all_goals simp [h])
    refine wpC_execs_cons ?_
    refine' wpC_If_cmp ?_ ?hm1
    case hm1 => rfl
    refine' wpC_Call_def (K := hd.heap_39 w.params) (a := 75) rfl ?_ ?hc1 ?hc2
    case hc1 => rfl
    case hc2 => rfl
    walk1
    refine ⟨rfl, wpAny_stop ?_⟩
    k_steps
    refine ⟨fun a o q => F10.keep a o (KX a o q), ?_⟩
    have hfr : ∀ i, i ≤ ls.length → (frontL pp (ls.map fun x => four.getD x 0) i).length ≤ 62 := fun i hi => by
      rw [fronts_told hp4 hpt hl4 hi]
      have h1 := toldL_len pp ls i
      have h2 := hpts i hi
      omega
    refine' grown_spec w _ _ _ _ _ _ _ _ _ _ _ _ _ _ _ _ D2 lvs.toArray ls b _ pl pws.toArray _ _ K0 F10 KX N10 T rfl ?kd2 ?ku2 hb01 pp ?kp2 hpi hpn hp4 ?kl2 hli hl4 ?kn2 ?kf2 ?kt2 ?kk2
    case kd2 => ktr_room
    case ku2 => ktr_units
    case kp2 => exact isList_of (n := 0) N10 (by simp)
    case kl2 => exact isList_of (n := lvs.length) N10 (by simp)
    case kn2 => omega
    case kf2 => exact hfr
    case kt2 => exact htk10
    case kk2 =>
    intro Dg ysg ng h11 tk11 hysg F11 N11
    clear F10
    k_steps
    dsimp only
    show wpAny _ _ _ _ _ _
    have hsame : ((List.range (ls.length + 1)).map fun i => (⟨(frontL pp (ls.map fun x => four.getD x 0) i).toArray⟩ : Str)) = (List.range (ls.length + 1)).map fun i => ⟨(toldL pp ls i).toArray⟩ :=
      List.map_congr_left fun i hi => by rw [fronts_told hp4 hpt hl4 (Nat.le_of_lt_succ (List.mem_range.mp hi))]
    rw [hsame] at hysg
    have hok : ∀ x ∈ (List.range (ls.length + 1)).map (fun i => (⟨(toldL pp ls i).toArray⟩ : Str)), PyData.strOk x = true := fun x hx => by
      obtain ⟨i, hi, rfl⟩ := List.mem_map.mp hx
      unfold PyData.strOk
      rw [List.all_toArray, List.all_eq_true]
      intro d hd
      have := four_small d (told_four hp4 hpt hl4 (Nat.le_of_lt_succ (List.mem_range.mp hi)) d hd)
      exact decide_eq_true (by omega)
    refine' ne_strs_same ?qa ?qb hysg hyst hok ?qu ?qk
    case qa => exact isList_of (n := ng) N11 (by simp)
    case qb => exact isList_of (n := nt) N11 (by simp)
    case qu => first | ke_room | ktr_units
    case qk =>
    k_steps
    clear hok hsame hysg
    replace N11 : News s₁.heap L' _ [(Dt, listOf (List.toArray yst) nt), (D2, listOf (List.toArray lvs) lvs.length), (pl, listOf (List.toArray pws) 0), (L' + 1 + 1 + 1, oi), (L' + 1 + 1, ow), (L' + 1, os)] := fun p hp => N11 p (List.mem_cons_of_mem _ hp)
    refine wpC_execs_nil ?_
    show wpC _ _ _ _ _ _
    refine wpC_execs_any (wpAny_stop ?_)
    k_steps
    refine' item_strs_neg (vs := yst) (ys := (List.range (ls.length + 1)).map fun i => (⟨(toldL pp ls i).toArray⟩ : Str)) ?il hyst (by decide) ?i1 (by decide) (fun tw => ?_) ?i2 ?i3
    case il => exact isList_of (n := nt) N11 (by simp)
    case i1 => rw [List.length_map, List.length_range]; omega
    case i2 => with_unfolding_all rfl
    case i3 => intro _; with_unfolding_all rfl
    have elast : ((List.range (ls.length + 1)).map fun i => (⟨(toldL pp ls i).toArray⟩ : Str)).getD (-1 + (((List.range (ls.length + 1)).map fun i => (⟨(toldL pp ls i).toArray⟩ : Str)).length : Int)).toNat Str.empty = ⟨(toldL pp ls ls.length).toArray⟩ := by
      rw [List.length_map, List.length_range, show (-1 + ((ls.length + 1 : Nat) : Int)).toNat = ls.length by omega, List.getD_eq_getElem?_getD, List.getElem?_map, List.getElem?_range (by omega)]
      rfl
    rw [elast]
    k_steps
    have zw := N11 (L' + 1 + 1, ow) (by simp)
    refine wpAny_storeName_cell rfl rfl (c := L' + 1 + 1) rfl ⟨ow, zw.1, dw⟩ fun h12 hv12 hs12 => ?_
    obtain ⟨ow', how', hdw'⟩ := hv12
    have F12 := F11.change hs12 zw.2.1 zw.2.2
    have N12 : News s₁.heap L' h12 [(Dt, listOf (List.toArray yst) nt), (D2, listOf (List.toArray lvs) lvs.length), (pl, listOf (List.toArray pws) 0), (L' + 1 + 1 + 1, oi), (L' + 1 + 1, ow'), (L' + 1, os)] := by
      refine news_cell N11 hs12 how' zw.2.1 zw.2.2 fun p hp => ?_
      simp only [List.mem_cons, List.not_mem_nil, or_false] at hp
      rcases hp with rfl | rfl | rfl | rfl | rfl | rfl
      · exact .inr ⟨by simp, list_ne_cell (xs := yst.toArray) (n := nt) (o := ow) N11 (by simp) (by simp) dw⟩
      · exact .inr ⟨by simp, list_ne_cell (xs := lvs.toArray) (n := lvs.length) (o := ow) N11 (by simp) (by simp) dw⟩
      · exact .inr ⟨by simp, list_ne_cell (xs := pws.toArray) (n := 0) (o := ow) N11 (by simp) (by simp) dw⟩
      · exact .inr ⟨by simp, Nat.succ_ne_self _⟩
      · exact .inl rfl
      · exact .inr ⟨by simp, Nat.ne_of_lt (Nat.lt_succ_self _)⟩
    clear N11 F11 hs12 how' zw dw
    show wpC _ _ _ _ _ _
    dsimp only at F12 N12 ⊢
    have hw4 := told_four hp4 hpt hl4 (Nat.le_refl ls.length)
    have hwl : (toldL pp ls ls.length).length ≤ 62 := by rw [← fronts_told hp4 hpt hl4 (Nat.le_refl _)]; exact hfr _ (Nat.le_refl _)
    have hw0 : 0 < (toldL pp ls ls.length).length := by
      rw [told_wd hpt hl4 _ (Nat.le_refl _)]
      exact Nat.lt_of_le_of_lt (Nat.zero_le _) (Pal.wd_lt hll.2)
    have hsz := sizes_told hp4 hpt hl4
    refine wpC_execs_cons ?_
    refine' wpC_Assign_Name ?_ ?hs2
    case hs2 => rfl
    refine' wpC_Call_def (K := hd.heap_39 w.params) (a := 68) rfl ?_ ?hc3 ?hc4
    case hc3 => rfl
    case hc4 => rfl
    walk1
    refine ⟨rfl, wpAny_stop ?_⟩
    k_steps
    refine ⟨fun a o q => F12.keep a o (KX a o q), ?_⟩
    have eb : (1 : Int) - (b : Int) = ((1 - b : Nat) : Int) := by omega
    rw [eb]
    refine' img_spec w _ _ _ _ _ _ _ _ _ _ _ _ _ _ _ _ (toldL pp ls ls.length) _ (1 - b) _ pl pws.toArray _ _ K0 F12 KX N12 T rfl ?kd3 ?ku3 (by omega) hw4 hw0 (by omega) pp ?kp3 hpi hpn hp4 ?kt3 ?kk3
    case kd3 => ktr_room
    case ku3 => ktr_units
    case kp3 => exact isList_of (n := 0) N12 (by simp)
    case kt3 => exact Nat.succ_pos _
    case kk3 =>
    intro ti h13 tk13 F13 N13
    have him : (toldL pp ls ls.length).reverse.map (mate pp) = imageL pp (toldL pp ls ls.length) := rfl
    rw [him]
    clear F12 N12
    have himl := imageL_len pp (toldL pp ls ls.length)
    clear him eb elast hw4 hw0 hfr
    generalize hwd : toldL pp ls ls.length = wd at *
    generalize hImg : imageL pp wd = im at *
    have zi := N13 (L' + 1 + 1 + 1, oi) (by simp)
    refine wpAny_storeName_cell rfl rfl (c := L' + 1 + 1 + 1) rfl ⟨oi, zi.1, di⟩ fun h14 hv14 hs14 => ?_
    obtain ⟨oi', hoi', hdi'⟩ := hv14
    have F14 := F13.change hs14 zi.2.1 zi.2.2
    have N14 : News s₁.heap L' h14 [(Dt, listOf (List.toArray yst) nt), (L' + 1 + 1 + 1, oi'), (L' + 1 + 1, ow')] := by
      refine news_cell N13 hs14 hoi' zi.2.1 zi.2.2 fun p hp => ?_
      simp only [List.mem_cons, List.not_mem_nil, or_false] at hp
      rcases hp with rfl | rfl | rfl
      · exact .inr ⟨by simp, list_ne_cell (xs := yst.toArray) (n := nt) (o := oi) N13 (by simp) (by simp) di⟩
      · exact .inl rfl
      · exact .inr ⟨by simp, Nat.ne_of_lt (Nat.lt_succ_self _)⟩
    clear N13 F13 hs14 hoi' zi di
    show wpC _ _ _ _ _ _
    dsimp only at F14 N14 ⊢
    replace F14 := frKnown F14 [("told", .ref Dt)] (by intro p hp; simp only [List.mem_cons, List.not_mem_nil, or_false] at hp; rcases hp with rfl; rfl)
    have hsw : (⟨wd.toArray⟩ : Str).length = wd.length := by show wd.toArray.size = _; exact List.size_toArray
    have hsi : (⟨im.toArray⟩ : Str).length = im.length := by show im.toArray.size = _; exact List.size_toArray
    refine wpC_execs_any ?_
    refine exec_Assign_comp (by with_unfolding_all rfl) (wpAny_stop ?_)
    k_steps
    try dsimp only
    rename IsRange _ _ _ _ _ _ _ _ => R15
    rename Fr s₁.heap _ _ _ => F15
    rename News s₁.heap _ _ _ => N15
    show wpAny _ _ _ _ _ _
    rw [hsw, show ((wd.length : Int) + 1) = ((wd.length + 1 : Nat) : Int) by omega] at R15
    refine comp_use_range rfl rfl rfl (by with_unfolding_all rfl) (by decide) (by rfl) (by decide) (by rfl) (by intro _; with_unfolding_all rfl) (fun k ys => IntsAre ys (((List.range k).filter fun k => wd.take k == im.drop (wd.length - k)).map Int.ofNat)) rfl R15 F15 N15 (by omega) .nil ?turnS ?finS
    case turnS =>
      rintro k v qs I oI C oC D2 m₂ h16 tk16 hk ⟨tq, rfl⟩ hJ hoC hm F16 N16 off ne
      simp only [LCg.Off3, and_true] at off
      have e1 := slice_head (w := wd) (k := k) (by omega)
      have e2 : Txt.slice ⟨im.toArray⟩ (some (((⟨wd.toArray⟩ : Str).length : Int) - (k : Int))) none = ⟨(im.drop (wd.length - k)).toArray⟩ := by
        rw [hsw, show ((wd.length : Int) - (k : Int)) = ((wd.length - k : Nat) : Int) by omega]
        exact slice_tail (by omega)
      refine wpAny_tests_one (wpAny_stop ?_)
      k_steps
      unfold Stop
      rw [e1, e2, str_beq]
      have hrg : (List.range (k + 1)).filter (fun k => wd.take k == im.drop (wd.length - k)) = (List.range k).filter (fun k => wd.take k == im.drop (wd.length - k)) ++ (if (wd.take k == im.drop (wd.length - k)) = true then [k] else []) := by
        rw [List.range_succ, List.filter_append]
        congr 1
        by_cases q : (wd.take k == im.drop (wd.length - k)) = true
        · rw [if_pos q, List.filter_cons_of_pos (by exact q)]; rfl
        · rw [if_neg q, List.filter_cons_of_neg (by exact q)]; rfl
      by_cases q : (wd.take k == im.drop (wd.length - k)) = true
      · rw [if_pos q]
        refine wpAny_stop ?_
        k_steps
        refine ⟨_, _, rfl, by assumption, by assumption, ?_⟩
        rw [hrg, if_pos q, List.map_append]
        exact hJ.append (.cons _ _ .nil)
      · rw [if_neg q]
        refine ⟨_, _, rfl, by assumption, by assumption, ?_⟩
        rw [hrg, if_neg q, List.append_nil]
        exact hJ
    case finS =>
    intro Ds h16 tk16 zs hJ hzl F16 N16 off16
    clear off16 F15 N15 R15
    rw [hsz] at hJ
    show wpC _ _ _ _ _ _
    try dsimp only at F16 N16
    replace F16 := frKnown F16 [("sizes", .ref Ds), ("told", .ref Dt)] (by intro p hp; simp only [List.mem_cons, List.not_mem_nil, or_false] at hp; rcases hp with rfl | rfl <;> rfl)
    refine wpC_execs_any (wpAny_stop ?_)
    k_steps
    show wpAny _ _ _ _ _ _
    refine comp_eval_list (its := yst.toArray) (by with_unfolding_all rfl) (by decide) (by rfl) (by decide) (by rfl) (by intro _; with_unfolding_all rfl) (fun k ys => IntsAre ys (((List.range k).map fun i => (toldL pp ls i).length).map Int.ofNat)) rfl (fun h F N => isList_of (r := Dt) (n := nt) N (by simp)) F16 N16 (by rw [List.size_toArray, StrsAre.len_eq hyst, List.length_map, List.length_range]; omega) .nil ?turnR ?finR
    case turnR =>
      rintro k v qs I oI C oC D3 m₂ h17 tk17 hk hv hJ3 hoC hm F17 N17 off ne
      simp only [LCg.Off3, and_true] at off
      rw [List.getElem?_toArray] at hv
      obtain ⟨y, t, rfl, hy⟩ := hyst.item k _ hv
      rw [List.size_toArray, StrsAre.len_eq hyst, List.length_map, List.length_range] at hk
      rw [List.getElem?_map, List.getElem?_range hk] at hy
      cases hy
      have hl1 : (toldL pp ls k).length ≤ 62 := by
        have h1 := toldL_len pp ls k
        have h2 := hpts k (by omega)
        omega
      have hl2 : (⟨(toldL pp ls k).toArray⟩ : Str).length = (toldL pp ls k).length := by show (toldL pp ls k).toArray.size = _; exact List.size_toArray
      refine wpAny_pure ?_
      simp only [if_true]
      refine wpAny_stop ?_
      k_steps
      refine ⟨_, _, rfl, by assumption, by assumption, ?_⟩
      rw [List.range_succ, List.map_append, List.map_append, hl2]
      exact hJ3.append (.cons _ _ .nil)
    case finR =>
    intro D3 h17 tk17 qs hJ3 hql F17 N17 off17
    clear off17
    rw [List.size_toArray, StrsAre.len_eq hyst, List.length_map, List.length_range] at hJ3
    k_steps
    show wpAny _ _ _ _ _ _
    refine' ke_eq_ints ?ea ?eb hJ hJ3 ?eu ?ek
    case ea => exact isList_of (n := zs.length) N17 (by simp)
    case eb => exact isList_of (n := qs.length) N17 (by simp)
    case eu => first | ke_room | ktr_units
    case ek =>
    rw [decide_eq_true rfl]
    exact ret _ _ F17.keep
theorem holds_whole : PySem.Challenge.rw_wo0013_01.Holds := by
  w_on
  o_law
  refine holdsC (q := hd.view_39) (loose := []) (Xt := fun s => xlAt hd.view_39 [] s && recOk [] s) (XP := XL hd.view_39 []) (H := kHook hd.heap_39 [2, 3, 6, 15, 17, 18, 20, 21, 22, 24, 25, 27, 28, 29, 31, 32, 34, 35, 36, 38, 39, 41, 42, 43, 45, 46, 48, 49,
          50, 52, 53, 55, 56, 57, 59, 60, 62, 63, 64, 67, 68, 69, 71, 72, 74, 75, 76, 79, 80, 81, 84, 85] (fun _ => by kernel_rfl)) (N := 900)
    ?left (fun s e => ⟨xl_of s (Bool.and_eq_true_iff.mp e).1, recFacts_of (Bool.and_eq_true_iff.mp e).2⟩) XL.keeps (by rfl) (by rfl) (by rfl) (by rfl) (by first | assumption | decide +kernel) (by decide +kernel) (by decide +kernel) (by decide +kernel) rfl ⟨rfl, rfl, rfl, rfl, rfl, by decide +kernel⟩ ?hw ?ask
  case left => intro w; kernel_rfl
  case hw => w_witness2
  case ask => exact law_ask rfl
end Mine

open PySem PySem.W PyProof.Rows in
set_option maxRecDepth 100000 in
set_option maxHeartbeats 8000000 in
theorem PySem.Challenge.cw_wo0013_01_holds : PySem.Challenge.rw_wo0013_01.Holds := by
  exact Mine.holds_whole
