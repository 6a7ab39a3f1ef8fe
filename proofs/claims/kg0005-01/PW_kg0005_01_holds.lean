import PyProof.Rows.All
import Wide.All
import OpenK.AllK
import Wide.FinOn
import PySem.Challenge.RW_kg0005_01
set_option Elab.async false

section
open PySem PySem.W PyProof.Rows PySem.Calls
namespace Mine

/-- a code under which a bytearray handed to a decoder would count as lent out -/
def lends : Code → Bool
  | .builtin id _ => Builtin.Bytes.decodersThatHold.contains id
  | _ => false
/-- no decoder stands on the stack -/
def Clear (l : List Code) : Prop := ∀ c ∈ l, lends c = false

/-- as wpAny, over the contexts whose stack bears no decoder -/
def wpC {α : Type} (M : Model) (A : Around) (t : Sem α) (Q : α → Shared → Prop) (E : Value → Shared → Prop) (s : Shared) : Prop :=
  ∀ Γ p, Γ.In A → Clear (Γ.code :: Γ.below.map (·.1)) → Sem.wp M Γ t (fun a _ s' => Q a s') (fun e _ s' => E e s') p s
def codeC (M : Model) (A : Around) (c : Code) (R : Result → Shared → Prop) (s : Shared) : Prop :=
  ∀ Γ p, Γ.code = c → Γ.Below A → Clear (Γ.below.map (·.1)) → wpCode M Γ R p s
abbrev noE : Value → Shared → Prop := fun _ _ => False

section
variable {α β : Type} {M : Model} {A : Around} {E : Value → Shared → Prop} {s : Shared}

theorem wpC_any {t : Sem α} {Q : α → Shared → Prop} (h : wpAny M A t Q E s) : wpC M A t Q E s := fun Γ p hΓ _ => h Γ p hΓ
theorem codeC_any {c : Code} {R : Result → Shared → Prop} (h : codeAny M A c R s) : codeC M A c R s := fun Γ p hc hΓ _ => h Γ p hc hΓ

theorem wpC_mono {t : Sem α} {Q Q' : α → Shared → Prop} {E' : Value → Shared → Prop} (h : wpC M A t Q E s)
    (hQ : ∀ a s, Q a s → Q' a s) (hE : ∀ e s, E e s → E' e s) : wpC M A t Q' E' s :=
  fun Γ p hΓ hc => Sem.wp_mono M Γ t (fun a _ s => hQ a s) (fun e _ s => hE e s) p s (h Γ p hΓ hc)
theorem wpC_noE {t : Sem α} {Q : α → Shared → Prop} (h : wpC M A t Q noE s) : wpC M A t Q E s := wpC_mono h (fun _ _ x => x) fun _ _ x => x.elim

theorem wpC_bind {m : Sem α} {f : α → Sem β} {Q : β → Shared → Prop} (h : wpC M A m (fun a s' => wpC M A (f a) Q E s') E s) :
    wpC M A (m >>= f) Q E s := fun Γ p hΓ hc => by
  rw [Sem.wp_bind']
  exact Sem.wp_mono M Γ m (fun a p' s' h' => h' Γ p' hΓ hc) (fun _ _ _ h' => h') p s (h Γ p hΓ hc)
theorem wpC_pure {a : α} {Q : α → Shared → Prop} (h : Q a s) : wpC M A (pure a) Q E s := wpC_any (wpAny_pure h)
theorem wpC_holding {vs : List Value} {m : Sem α} {Q : α → Shared → Prop} (h : wpC M A m Q E s) : wpC M A (holding vs m) Q E s :=
  fun Γ p hΓ hc => by rw [Sem.wp_holding]; exact h Γ p hΓ hc
theorem wpC_keep {vs : List Value} {m : Sem α} {Q : α → Shared → Prop} (h : wpC M A m Q E s) : wpC M A (m.keep vs) Q E s :=
  fun Γ p hΓ hc => by rw [Sem.wp_keep]; exact h Γ p hΓ hc
theorem wpC_onRaise {m : Sem α} {k : Value → Sem Unit} {Q : α → Shared → Prop} (h : wpC M A m Q noE s) : wpC M A (m.onRaise k) Q E s := fun Γ p hΓ hc => by
  rw [Sem.wp_onRaise]
  exact Sem.wp_mono M Γ m (fun _ _ _ h' => h') (fun _ _ _ h' => h'.elim) p s (h Γ p hΓ hc)
theorem wpC_attempt {m : Sem α} {Q : Except Value α → Shared → Prop} (h : wpC M A m (fun a => Q (.ok a)) noE s) :
    wpC M A m.attempt Q E s := fun Γ p hΓ hc => by
  rw [Sem.wp_attempt]
  exact Sem.wp_mono M Γ m (fun _ _ _ h' => h') (fun _ _ _ h' => h'.elim) p s (h Γ p hΓ hc)
theorem wpC_standAt {pos : Pos} {Q : Unit → Shared → Prop} (h : Q () s) : wpC M A (standAt pos) Q E s := wpC_any (wpAny_standAt h)
theorem wpC_of_eq {t : Sem α} {a : α} {Q : α → Shared → Prop} (e : t = pure a) (h : Q a s) : wpC M A t Q E s := by rw [e]; exact wpC_pure h

theorem codeC_mono {c : Code} {R R' : Result → Shared → Prop} (h : codeC M A c R s) (hR : ∀ r s, R r s → R' r s) : codeC M A c R' s :=
  fun Γ p hc hΓ hl => wpCode_mono hR (h Γ p hc hΓ hl)

theorem wpC_run {c : Code} {Q : Flow → Shared → Prop}
    (hc : codeC M A c (fun r s' => match r with | .ok f => Q f s' | .error e => E e s') s) : wpC M A (run c none) Q E s :=
  fun Γ p hΓ hl => by
    rw [Sem.wp_run]
    exact hc _ p rfl (hΓ.enter c none p (by intro x; cases x)) hl
theorem wpC_call {f : Value} {pos : List Value} {kw : List (Str × Value)} {Q : Value → Shared → Prop}
    (hc : codeC M A (.call f ⟨pos, kw⟩) (fun r s' => match r with | .ok (.ret v) => Q v s' | .ok _ => False | .error e => E e s') s) :
    wpC M A (call f pos kw) Q E s := fun Γ p hΓ hl => by
  show Sem.wp M Γ (runValue _) _ _ p s
  rw [Sem.wp_runValue]
  exact hc _ p rfl (hΓ.enter _ none p (by intro x; cases x)) hl

theorem codeC_of_tree {c : Code} {R : Result → Shared → Prop} (hl : lends c = false)
    (h : wpC M (A.under c) (M.den c) (fun fin s' => match fin with | .done f => R (.ok f) s' | .again c' => c'.quiet = true ∧ codeC M A c' R s')
      (fun e s' => R (.error e) s') s) : codeC M A c R s := fun Γ p hc hΓ hb => by
  rw [wpCode_iff_wp, hc]
  have hcl : Clear (Γ.code :: Γ.below.map (·.1)) := fun x hx => by
    rcases List.mem_cons.mp hx with rfl | hx
    · rw [hc]; exact hl
    · exact hb x hx
  refine Sem.wp_mono M Γ _ (fun fin p' s' h' => ?_) (fun _ _ _ h' => h') p s (h Γ p (hc ▸ hΓ.in) hcl)
  cases fin with
  | done f => exact h'
  | again c' => exact ⟨h'.1, h'.2 (Γ.goto c') p' rfl (hΓ.goto c') hb⟩

theorem codeC_loop {c : Code} {R : Result → Shared → Prop} (hl : lends c = false) (hq : c.quiet = true) (I : Nat → Shared → Prop)
    (turn : ∀ n s, I n s → wpC M (A.under c) (M.den c)
      (fun fin s' => match fin with | .done f => R (.ok f) s' | .again c' => c' = c ∧ ∃ m, m < n ∧ I m s') (fun e s' => R (.error e) s') s)
    (n : Nat) (h : I n s) : codeC M A c R s := by
  induction n using Nat.strongRecOn generalizing s with
  | ind n ih =>
    refine codeC_of_tree hl (wpC_mono (turn n s h) (fun fin s' hf => ?_) fun _ _ h' => h')
    cases fin with
    | done f => exact hf
    | again c' => obtain ⟨rfl, m, hm, hI⟩ := hf; exact ⟨hq, ih m hm hI⟩
end

theorem guard_is (id : String) (args : Args) : (Code.builtin id args).isGuard = guardIds.contains id := rfl
/-- on a clear stack without guards no bytearray is lent out -/
theorem wpC_exported {M : Model} {A : Around} {E : Value → Shared → Prop} {s : Shared} {v : Value} {Q : Bool → Shared → Prop} (hg : A.guards = some []) (h : Q false s) :
    wpC M A (Builtin.Bytes.exported v) Q E s := fun Γ p hΓ hcl => by
  have hguards : guardsOf ((Γ.code, p) :: Γ.below) = [] := by rw [guardsOf_cons]; exact hΓ.2.2.2.1 [] hg
  have hcl' : Clear (((Γ.code, p) :: Γ.below).map (·.1)) := hcl
  unfold Builtin.Bytes.exported
  show Q (List.any ((Γ.code, p) :: Γ.below) _) s
  generalize (Γ.code, p) :: Γ.below = st at hguards hcl'
  have out : ∀ b : Bool, b = false → Q b s := fun b e => by rw [e]; exact h
  refine out _ ?_
  rw [List.any_eq_false]
  rintro ⟨c, q⟩ hx
  have hn : c.isGuard = false := by
    cases hq : c.isGuard with
    | false => rfl
    | true =>
      have hm : c ∈ guardsOf st := List.mem_filter.mpr ⟨List.mem_map.mpr ⟨_, hx, rfl⟩, hq⟩
      rw [hguards] at hm
      cases hm
  have hd := hcl' c (List.mem_map.mpr ⟨_, hx, rfl⟩)
  split
  case h_6 =>
    rename_i e
    injection e with e1 _
    subst e1
    have hd' : Builtin.Bytes.decodersThatHold.contains _ = false := hd
    rw [hd', Bool.and_false]
    exact Bool.false_ne_true
  case h_7 => exact Bool.false_ne_true
  all_goals
    rename_i e
    injection e with e1 _
    subst e1
    exfalso
    rw [guard_is] at hn
    revert hn
    decide +kernel

end Mine
end

section
open PySem PySem.W PyProof.Rows PySem.Calls
set_option maxRecDepth 100000
namespace Mine
namespace FA
theorem mro : mroOf (.type "bytearray") = pure [.type "bytearray", .type "object"] := by rw [mroOf_type]; kernel_rfl
theorem lookup_new : typeLookup (.type "bytearray") "__new__" = pure (some (.builtin "bytearray.__new__")) := by rw [typeLookup_type, builtinLookup_eq_fast]; kernel_rfl
theorem slot_init : Slot "bytearray" "__init__" "bytearray.__init__" :=
  .of (owner := "bytearray") (n := "__init__") (by rw [typeLookup_type, builtinLookup_eq_fast]; kernel_rfl) (by decide +kernel) (by decide +kernel) (by decide +kernel)
    (by first | exact .inl (by decide +kernel) | exact .inr (by decide +kernel)) (by rw [isSubtype_type]; kernel_rfl)
theorem slot_append : Slot "bytearray" "append" "bytearray.append" :=
  .of (owner := "bytearray") (n := "append") (by rw [typeLookup_type, builtinLookup_eq_fast]; kernel_rfl) (by decide +kernel) (by decide +kernel) (by decide +kernel)
    (by first | exact .inl (by decide +kernel) | exact .inr (by decide +kernel)) (by rw [isSubtype_type]; kernel_rfl)
theorem called : TypeCalled "bytearray" "bytearray.__new__" "bytearray.__init__" :=
  ⟨by decide +kernel, by decide +kernel, ⟨_, _, mro⟩, madeBy_type mro lookup_new (by decide +kernel), by decide +kernel, by rw [isSubtype_type]; kernel_rfl, slot_init⟩
theorem typeCall : checkTypeCall "bytearray" ⟨[], []⟩ = pure () := by kernel_rfl
theorem newCall : checkBuiltinCall "bytearray.__new__" ⟨[.type "bytearray"], []⟩ = pure () := by kernel_rfl
theorem entry_new : entryFor table "bytearray.__new__" = some Builtin.«list.__new__» :=
  entryFor_alias (id' := "list.__new__") (by rw [fastTable_eq_tree]; kernel_rfl) (by decide +kernel) (by decide +kernel) (by rw [fastTable_eq_tree]; kernel_rfl)
theorem plain_new : plainId "bytearray.__new__" = true := by decide +kernel
theorem plain_init : plainId "bytearray.__init__" = true := by decide +kernel
theorem plain_append : plainId "bytearray.append" = true := by decide +kernel
theorem entry_init : entryFor table "bytearray.__init__" = some Builtin.«bytearray.__init__» := by first | exact entryFor_of_tree (by kernel_rfl) | exact entryFor_of_fast (by kernel_rfl)
theorem entry_append : entryFor table "bytearray.append" = some Builtin.«bytearray.append» := by first | exact entryFor_of_tree (by kernel_rfl) | exact entryFor_of_fast (by kernel_rfl)
theorem args_init (a : Value) : argsOk "bytearray.__init__" ⟨[a], []⟩ := by unfold argsOk; kernel_rfl
theorem args_append (a b : Value) : argsOk "bytearray.append" ⟨[a, b], []⟩ := by unfold argsOk; kernel_rfl
theorem sub : isSubtype (.type "bytearray") (.type "bytearray") = pure true := by rw [isSubtype_type]; kernel_rfl
theorem bindInit : Builtin.Bytes.bindOptional "bytearray.__init__" "bytearray" ["source", "encoding", "errors"] [] [] = pure [none, none, none] := by kernel_rfl
theorem look_release : typeLookup (.type "bytearray") "__release_buffer__" = pure (some (.builtin "bytearray.__release_buffer__")) := by rw [typeLookup_type, builtinLookup_eq_fast]; kernel_rfl
theorem look_buffer : typeLookup (.type "bytearray") "__buffer__" = pure (some (.builtin "bytearray.__buffer__")) := by rw [typeLookup_type, builtinLookup_eq_fast]; kernel_rfl
theorem noBytes : typeLookup (.type "bytearray") "__bytes__" = pure none := by rw [typeLookup_type, builtinLookup_eq_fast]; kernel_rfl
theorem noIndex : typeLookup (.type "bytearray") "__index__" = pure none := by rw [typeLookup_type, builtinLookup_eq_fast]; kernel_rfl
theorem look_getattribute : typeLookup (.type "bytearray") "__getattribute__" = pure (some (.builtin "bytearray.__getattribute__")) := by rw [typeLookup_type, builtinLookup_eq_fast]; kernel_rfl
theorem noGetattr : typeLookup (.type "bytearray") "__getattr__" = pure none := by rw [typeLookup_type, builtinLookup_eq_fast]; kernel_rfl
theorem plainAttrs : PlainAttrs "bytearray" :=
  ⟨⟨"bytearray.__getattribute__", by rw [typeLookup_type, builtinLookup_eq_fast]; kernel_rfl, by decide +kernel⟩, by rw [typeLookup_type, builtinLookup_eq_fast]; kernel_rfl⟩
theorem type_append : typeOf (.builtin "bytearray.append") = pure (.type "method_descriptor") := by show builtinType _ = _; rw [builtinType_eq_fast]; kernel_rfl
theorem type_join : typeOf (.builtin "bytes.join") = pure (.type "method_descriptor") := by show builtinType _ = _; rw [builtinType_eq_fast]; kernel_rfl
theorem type_upper : typeOf (.builtin "bytes.upper") = pure (.type "method_descriptor") := by show builtinType _ = _; rw [builtinType_eq_fast]; kernel_rfl
theorem slot_join : Slot "bytes" "join" "bytes.join" :=
  .of (owner := "bytes") (n := "join") (by rw [typeLookup_type, builtinLookup_eq_fast]; kernel_rfl) (by decide +kernel) (by decide +kernel) (by decide +kernel)
    (by first | exact .inl (by decide +kernel) | exact .inr (by decide +kernel)) (by rw [isSubtype_type]; kernel_rfl)
theorem slot_upper : Slot "bytes" "upper" "bytes.upper" :=
  .of (owner := "bytes") (n := "upper") (by rw [typeLookup_type, builtinLookup_eq_fast]; kernel_rfl) (by decide +kernel) (by decide +kernel) (by decide +kernel)
    (by first | exact .inl (by decide +kernel) | exact .inr (by decide +kernel)) (by rw [isSubtype_type]; kernel_rfl)
theorem entry_join : entryFor table "bytes.join" = some Builtin.«bytes.join» := by first | exact entryFor_of_tree (by kernel_rfl) | exact entryFor_of_fast (by kernel_rfl)
theorem entry_upper : entryFor table "bytes.upper" = some Builtin.«bytes.upper» := by first | exact entryFor_of_tree (by kernel_rfl) | exact entryFor_of_fast (by kernel_rfl)
theorem args_join (a b : Value) : argsOk "bytes.join" ⟨[a, b], []⟩ := by unfold argsOk; kernel_rfl
theorem args_upper (a : Value) : argsOk "bytes.upper" ⟨[a], []⟩ := by unfold argsOk; kernel_rfl
end FA
set_option maxRecDepth 1000000 in
set_option maxHeartbeats 4000000 in
theorem owner_new : ("bytearray.__new__".splitOn ".__new__").headD "" = "bytearray" := by simp +decide [String.splitOn, String.splitOnAux]

/-- a bytearray's object -/
abbrev baObj (b : Array UInt8) : Obj := { cls := .type "bytearray", data := .bytearray b }
section
variable {prog : Program} {w : World} {A : Around} {E : Value → Shared → Prop} {s : Shared}

theorem code_new {Q₁ : Value → Shared → Prop} (h : Q₁ (.ref s.heap.objs.size) { s with heap := s.heap.push (baObj #[]) }) :
    codeAny (model prog w) A (.call (.builtin "bytearray.__new__") ⟨[.type "bytearray"], []⟩) (wants Q₁ E) s := by
  refine codeAny_of_tree ?_
  show wpAny _ A.in1 (do checkBuiltinCall "bytearray.__new__" ⟨[.type "bytearray"], []⟩; again (.builtin "bytearray.__new__" ⟨[.type "bytearray"], []⟩)) _ _ s
  refine wpAny_bind (wpAny_of_eq FA.newCall (wpAny_pure ⟨plainId_quiet FA.plain_new _, codeAny_builtin_stack FA.entry_new rfl fun p st => ?_⟩))
  rw [Around.under_plainId FA.plain_new _]
  have hsub := FA.sub
  have hown := owner_new
  obtain ⟨hp, g, d, tk, os⟩ := s
  simp only [hown]
  wp_walk
  exact h
end
end Mine
end

section
open PySem PySem.W PyProof.Rows PySem.Calls
set_option maxRecDepth 100000
namespace Mine
section
variable {prog : Program} {w : World} {M : Model} {A : Around} {E : Value → Shared → Prop} {s : Shared} {a : Addr} {b : Array UInt8}

theorem ba_type (h : s.heap.get? a = some (baObj b)) : s.TypeIs (.ref a) "bytearray" := ⟨_, h, rfl⟩

theorem ba_release (h : s.heap.get? a = some (baObj b)) {Q : Bool → Shared → Prop} (hQ : Q false s) : wpAny M A (Builtin.Bytes.ownRelease (.ref a)) Q E s := by
  unfold Builtin.Bytes.ownRelease Builtin.Bytes.slotIsOwn
  refine wpAny_bind (wpAny_bind (wpAny_specialOf (ba_type h) FA.look_release ?_))
  dsimp only
  split
  · rename_i hx
    exact absurd hx (by decide +kernel)
  · have key : ∀ x : String, x = "bytearray" → wpAny M A (isInstance (.ref a) (.type x)) (fun r s' => wpAny M A (pure !r) Q E s') E s := fun x hx => by
      rw [hx]
      exact wpAny_isInstance (ba_type h) FA.sub (wpAny_pure hQ)
    exact key _ (by decide +kernel)

theorem ba_lent (hg : A.guards = some []) (h : s.heap.get? a = some (baObj b)) {Q : Bool → Shared → Prop} (hQ : Q false s) :
    wpC M A (Builtin.Bytes.exported (.ref a) <||> (do return (← Builtin.Bytes.exportsOf (.ref a)) > 0)) Q E s := by
  show wpC M A (Builtin.Bytes.exported (.ref a) >>= fun r => _) Q E s
  refine wpC_bind (wpC_exported hg ?_)
  show wpC M A (Builtin.Bytes.exportsOf (.ref a) >>= fun r => _) Q E s
  refine wpC_bind (wpC_any ?_)
  show wpAny M A (load a >>= fun o => _) _ E s
  refine wpAny_bind (wpAny_load h ?_)
  exact wpAny_pure (wpC_pure hQ)

theorem ba_write {f : Array UInt8 → Array UInt8} (h : s.heap.get? a = some (baObj b)) (hz : (f b).size ≤ sizeLine) {Q : Unit → Shared → Prop}
    (hQ : ∀ h', h'.get? a = some (baObj (f b)) → Heap.SameBut a s.heap h' → Q () { s with heap := h' }) : wpAny M A (Builtin.Bytes.write (.ref a) f) Q E s := by
  show wpAny _ _ (updateBytearray a f) _ _ _
  unfold updateBytearray
  refine wpAny_bind (wpAny_load h ?_)
  show wpAny _ _ (update a (Obj.mapBytearray f) >>= fun _ => lookBehind a) _ _ _
  refine wpAny_bind (wpAny_update h ?_)
  have h₂ : (s.heap.update a (Obj.mapBytearray f)).get? a = some (baObj (f b)) := Heap.get?_update_self (Obj.mapBytearray f) h rfl
  refine wpAny_lookBehind h₂ ?_ (hQ _ h₂ (Heap.SameBut.update ..))
  show (if (f b).size > sizeLine then some "bytearray:memory" else none) = none
  rw [if_neg (Nat.not_lt.mpr hz)]
end

section
variable {prog : Program} {w : World} {A : Around} {E : Value → Shared → Prop} {s : Shared} {a : Addr} {b : Array UInt8}

theorem codeC_builtin {id : String} {args : Args} {bi : Builtin} {R : Result → Shared → Prop} (hl : Builtin.Bytes.decodersThatHold.contains id = false) (hb : entryFor table id = some bi)
    (h : wpC (model prog w) (A.under (.builtin id args)) (bi args) (fun fin s' => match fin with | .done f => R (.ok f) s' | .again c' => c'.quiet = true ∧ codeC (model prog w) A c' R s')
      (fun e s' => R (.error e) s') s) : codeC (model prog w) A (.builtin id args) R s := by
  refine codeC_of_tree hl ?_
  show wpC _ _ (match entryFor table id with | some b => b args | none => _) _ _ s
  rw [hb]
  exact h

theorem init_code (hg : A.guards = some []) (h : s.heap.get? a = some (baObj b)) {R : Result → Shared → Prop}
    (hR : ∀ h', h'.get? a = some (baObj #[]) → Heap.SameBut a s.heap h' → R (.ok (.ret .none)) { s with heap := h' }) :
    codeC (model prog w) A (.builtin "bytearray.__init__" ⟨[.ref a], []⟩) R s := by
  refine codeC_builtin (by decide +kernel) FA.entry_init ?_
  rw [Around.under_plainId FA.plain_init _]
  unfold Builtin.«bytearray.__init__»
  show wpC _ _ (Builtin.Bytes.ownRelease (.ref a) >>= fun r => _) _ _ s
  refine wpC_bind (wpC_any (ba_release h ?_))
  show wpC _ _ (Builtin.Bytes.bindOptional _ _ _ _ _ >>= fun r => _) _ _ s
  refine wpC_bind (wpC_of_eq FA.bindInit ?_)
  refine wpC_bind (wpC_of_eq (a := ()) rfl ?_)
  refine wpC_bind (wpC_of_eq (a := ()) rfl ?_)
  refine wpC_bind (ba_lent (A := A.in1) hg h ?_)
  show wpC _ _ (Builtin.Bytes.write _ _ >>= fun r => _) _ _ s
  refine wpC_bind (wpC_any (ba_write h (Nat.zero_le _) fun h' h1 h2 => ?_))
  exact wpC_pure (hR h' h1 h2)

theorem append_code {n : Int} {t : Tok} (hg : A.guards = some []) (h : s.heap.get? a = some (baObj b)) (h0 : 0 ≤ n) (h1 : n < 256) (hz : b.size < sizeLine) {R : Result → Shared → Prop}
    (hR : ∀ h', h'.get? a = some (baObj (b.push n.toNat.toUInt8)) → Heap.SameBut a s.heap h' → R (.ok (.ret .none)) { s with heap := h' }) :
    codeC (model prog w) A (.builtin "bytearray.append" ⟨[.ref a, .int n t], []⟩) R s := by
  refine codeC_builtin (by decide +kernel) FA.entry_append ?_
  rw [Around.under_plainId FA.plain_append _]
  unfold Builtin.«bytearray.append»
  refine wpC_bind (wpC_of_eq (a := ((.ref a : Value), (.int n t : Value))) rfl ?_)
  show wpC _ _ (Builtin.Bytes.byteValue (.int n t) >>= fun r => _) _ _ s
  refine wpC_bind (wpC_any ?_)
  unfold Builtin.Bytes.byteValue
  refine wpAny_bind (wpAny_of_eq (rfl : asIndex (.int n t) = pure n) ?_)
  refine bm_if_false (by simp only [Bool.or_eq_false_iff, decide_eq_false_iff_not]; omega) ?_
  refine wpAny_pure ?_
  show wpC _ _ (Builtin.Bytes.checkResize (.ref a) >>= fun r => _) _ _ s
  refine wpC_bind ?_
  unfold Builtin.Bytes.checkResize
  refine wpC_bind (ba_lent (A := A.in1) hg h ?_)
  refine wpC_pure ?_
  show wpC _ _ (Builtin.Bytes.write _ _ >>= fun r => _) _ _ s
  refine wpC_bind (wpC_any (ba_write h (by rw [Array.size_push]; exact hz) fun h' h1 h2 => ?_))
  exact wpC_pure (hR h' h1 h2)

theorem codeC_call_slot {T : String} {name : Str} {id : String} {self : Value} {rest : List Value} {R : Result → Shared → Prop} (hs : Slot T name id) (hT : s.TypeIs self T) (ha : argsOk id ⟨self :: rest, []⟩)
    (h : codeC (model prog w) A (.builtin id ⟨self :: rest, []⟩) R s) : codeC (model prog w) A (.call (.builtin id) ⟨self :: rest, []⟩) R s := by
  refine codeC_of_tree rfl ?_
  show wpC _ _ (do checkBuiltinCall id ⟨self :: rest, []⟩; again (.builtin id ⟨self :: rest, []⟩)) _ _ s
  refine wpC_bind (wpC_any (hs.check _ _ _ _ _ _ _ _ hT ha ?_))
  exact wpC_pure ⟨plainId_quiet hs.plain _, h⟩

theorem call_append {n : Int} {t : Tok} (hg : A.guards = some []) (h : s.heap.get? a = some (baObj b)) (h0 : 0 ≤ n) (h1 : n < 256) (hz : b.size < sizeLine) {Q : Value → Shared → Prop}
    (hQ : ∀ h', h'.get? a = some (baObj (b.push n.toNat.toUInt8)) → Heap.SameBut a s.heap h' → Q .none { s with heap := h' }) :
    wpC (model prog w) A (call (.builtin "bytearray.append") [.ref a, .int n t]) Q E s :=
  wpC_call (codeC_call_slot FA.slot_append (ba_type h) (FA.args_append _ _) (append_code hg h h0 h1 hz hQ))
end
end Mine
end

section
open PySem PySem.W PyProof.Rows PySem.Calls
set_option maxRecDepth 100000
namespace Mine
section
variable {prog : Program} {w : World} {A : Around} {E : Value → Shared → Prop} {s : Shared} {a : Addr} {b : Array UInt8}
theorem wpC_ite_f {α : Type} {M : Model} {c : Bool} {t e : Sem α} {Q : α → Shared → Prop} (hc : c = false) (h : wpC M A e Q E s) : wpC M A (if c = true then t else e) Q E s := by
  subst hc
  exact h
theorem wpC_ite_t {α : Type} {M : Model} {c : Bool} {t e : Sem α} {Q : α → Shared → Prop} (hc : c = true) (h : wpC M A t Q E s) : wpC M A (if c = true then t else e) Q E s := by
  subst hc
  exact h

theorem call_bytearray0 (hg : A.guards = some []) {Q : Value → Shared → Prop}
    (hQ : ∀ h', h'.get? s.heap.objs.size = some (baObj #[]) → (∀ b o, s.heap.get? b = some o → h'.get? b = some o) → Q (.ref s.heap.objs.size) { s with heap := h' }) :
    wpC (model prog w) A (call (.type "bytearray") []) Q E s := by
  have ft := FA.called
  obtain ⟨c, tl, hmro⟩ := ft.mro
  refine wpC_call (codeC_of_tree rfl ?_)
  show wpC _ _ (callAny (.type "bytearray") _) _ _ _
  refine wpC_pure ⟨Code.quiet_builtin _ (by decide +kernel), codeC_builtin (by decide +kernel) F.entry_type_call ?_⟩
  rw [Around.under_plain (weight_type_call_type "bytearray" [] []) rfl]
  unfold Builtin.«type.__call__»
  show wpC _ _ (if (Value.type "bytearray" == Value.type "type") = true then _ else _) _ _ _
  refine wpC_ite_f (by decide +kernel) ?_
  refine wpC_ite_f ft.canCreate ?_
  refine wpC_bind (wpC_of_eq FA.typeCall ?_)
  refine wpC_bind (wpC_of_eq hmro ?_)
  refine wpC_bind (wpC_of_eq ft.made ?_)
  refine wpC_bind (wpC_pure ?_)
  refine wpC_bind (wpC_holding (wpC_any (wpAny_call (code_new ?_))))
  have h0 : (s.heap.push (baObj #[])).get? s.heap.objs.size = some (baObj #[]) := Heap.get?_push_size _ rfl
  refine wpC_bind (wpC_any (wpAny_isInstance (ba_type h0) ft.sub ?_))
  refine wpC_ite_f rfl ?_
  refine wpC_bind (wpC_holding ?_)
  unfold callSpecial?
  refine wpC_bind (wpC_any (wpAny_specialOf (ba_type h0) ft.init.lookup ?_))
  refine wpC_holding (wpC_bind (wpC_of_eq (ft.init.bind _) ?_))
  refine wpC_bind (wpC_call (codeC_call_slot ft.init (ba_type h0) (FA.args_init _) (init_code (A := A.in1) hg h0 fun h' h1 h2 => ?_)))
  refine wpC_pure ?_
  refine wpC_ite_f (by decide) ?_
  exact wpC_pure (hQ h' h1 fun b o e => h2.extBut b o (Nat.ne_of_lt (Heap.lt_size e)) (Heap.get?_push_of_some _ e))
end
end Mine
end

section
open PySem PySem.W PyProof.Rows PySem.Calls
set_option maxRecDepth 100000
namespace Mine
section
variable {prog : Program} {w : World} {M : Model} {A : Around} {E : Value → Shared → Prop} {s : Shared} {a : Addr} {b : Array UInt8} {pl : Sem Bool}

theorem method_append {Q : Value × List Value → Shared → Prop} (h : s.heap.get? a = some (baObj b)) (hQ : Q (.builtin "bytearray.append", [.ref a]) s) : wpAny M A (getMethod (.ref a) "append" pl) Q E s :=
  getMethod_builtin (ba_type h) FA.plainAttrs FA.slot_append FA.type_append (fun a' e => by cases e; exact ⟨_, h, rfl⟩) hQ
theorem method_join {t : Tok} {Q : Value × List Value → Shared → Prop} (hQ : Q (.builtin "bytes.join", [.bytes b t]) s) : wpAny M A (getMethod (.bytes b t) "join" pl) Q E s :=
  getMethod_builtin (typeIs_bytes _ _ _) FB.plainAttrs_bytes FA.slot_join FA.type_join (fun _ e => nomatch e) hQ
theorem method_upper {t : Tok} {Q : Value × List Value → Shared → Prop} (hQ : Q (.builtin "bytes.upper", [.bytes b t]) s) : wpAny M A (getMethod (.bytes b t) "upper" pl) Q E s :=
  getMethod_builtin (typeIs_bytes _ _ _) FB.plainAttrs_bytes FA.slot_upper FA.type_upper (fun _ e => nomatch e) hQ

theorem ba_own_buffer (h : s.heap.get? a = some (baObj b)) {Q : Bool → Shared → Prop} (hQ : Q true s) : wpAny M A (Builtin.Bytes.slotIsOwn (.ref a) "__buffer__") Q E s := by
  unfold Builtin.Bytes.slotIsOwn
  refine wpAny_bind (wpAny_specialOf (ba_type h) FA.look_buffer ?_)
  dsimp only
  split
  · rename_i hx
    exact absurd hx (by decide +kernel)
  · have key : ∀ x : String, x = "bytearray" → wpAny M A (isInstance (.ref a) (.type x)) Q E s := fun x hx => by
      rw [hx]
      exact wpAny_isInstance (ba_type h) FA.sub hQ
    exact key _ (by decide +kernel)

theorem ba_buffer {id : String} {full : Bool} (h : s.heap.get? a = some (baObj b)) {Q : Option (Array UInt8) → Shared → Prop} (hQ : Q (some b) s) : wpAny M A (Builtin.Bytes.buffer? id (.ref a) full) Q E s := by
  unfold Builtin.Bytes.buffer?
  refine wpAny_bind (wpAny_specialOf (ba_type h) FA.look_buffer ?_)
  refine wpAny_bind (ba_own_buffer h ?_)
  show wpAny M A (specialOf _ _ >>= fun r => _) Q E s
  refine wpAny_bind (wpAny_specialOf (ba_type h) FA.look_buffer ?_)
  dsimp only
  refine wpAny_bind (ba_release h ?_)
  show wpAny M A (Builtin.Bytes.payload (.ref a) >>= fun r => _) Q E s
  refine wpAny_bind ?_
  unfold Builtin.Bytes.payload Builtin.Bytes.payload?
  refine wpAny_bind (wpAny_bind (wpAny_load h ?_))
  exact wpAny_pure (wpAny_pure (wpAny_pure hQ))
end

section
variable {prog : Program} {w : World} {A : Around} {E : Value → Shared → Prop} {s : Shared} {a : Addr} {b : Array UInt8}

theorem new_bytes {Q : Value → Shared → Prop} (h : s.heap.get? a = some (baObj b)) (hz : b.size ≤ sizeLine)
    (hQ : Q (.bytes b s.toks) { s with toks := s.toks + 1 }) :
    codeAny (model prog w) A (.call (.builtin "bytes.__new__") ⟨[.type "bytes", .ref a], []⟩) (wants Q E) s := by
  refine codeAny_of_tree ?_
  show wpAny _ A.in1 (do checkBuiltinCall "bytes.__new__" ⟨[.type "bytes", .ref a], []⟩; again (.builtin "bytes.__new__" ⟨[.type "bytes", .ref a], []⟩)) _ _ s
  refine wpAny_bind (wpAny_of_eq (F.bm_newCall _) (wpAny_pure ⟨plainId_quiet F.bm_plain _, codeAny_builtin F.bm_entry ?_⟩))
  rw [Around.under_plainId F.bm_plain _]
  have hT := ba_type h
  unfold Builtin.«bytes.__new__»
  refine wpAny_bind (wpAny_of_eq (a := true) rfl ?_)
  refine bm_if_false rfl ?_
  refine wpAny_bind (wpAny_of_eq F.bm_sub ?_)
  refine bm_if_false rfl ?_
  refine wpAny_bind (wpAny_of_eq (F.bm_bind _) ?_)
  refine wpAny_bind (wpAny_of_eq (a := ()) rfl ?_)
  refine wpAny_bind (wpAny_of_eq (a := ()) rfl ?_)
  refine bm_if_false rfl ?_
  refine wpAny_bind (wpAny_specialOf hT FA.noBytes ?_)
  refine wpAny_bind (wpAny_bind ?_)
  show wpAny _ _ (load a >>= _) _ _ _
  refine wpAny_bind (wpAny_load h ?_)
  refine wpAny_pure (wpAny_pure ?_)
  refine bm_if_false rfl ?_
  refine wpAny_bind (wpAny_specialOf hT FA.noIndex ?_)
  refine bm_if_true rfl ?_
  first
    | show wpAny _ _ (Builtin.Bytes.buffer? "bytes.__new__" (.ref a) true >>= _) _ _ _
    | (refine wpAny_bind ?_; show wpAny _ _ (Builtin.Bytes.buffer? "bytes.__new__" (.ref a) true >>= _) _ _ _)
  refine wpAny_bind (ba_buffer h ?_)
  refine wpAny_bind (wpAny_rule ?_)
  refine wpAny_bind (wpAny_mkBytes ?_ hz)
  show wpAny _ _ (if (Value.type "bytes" == Value.type "bytes") = true then _ else _) _ _ _
  refine bm_if_true (by decide) ?_
  first
    | exact wpAny_pure hQ
    | exact wpAny_bind (wpAny_pure (wpAny_pure hQ))
    | exact wpAny_pure (wpAny_pure hQ)

theorem call_bytes_ba {Q : Value → Shared → Prop} (h : s.heap.get? a = some (baObj b)) (hz : b.size ≤ sizeLine)
    (hQ : Q (.bytes b s.toks) { s with toks := s.toks + 1 }) : wpAny (model prog w) A (call (.type "bytes") [.ref a]) Q E s := by
  refine callType_codes (Q₁ := fun obj s₁ => s₁.TypeIs obj "bytes" ∧ Q obj s₁) F.bm_called (F.bm_typeCall _) F.entry_object_init
    (new_bytes h hz ⟨PySem.W.typeIs_bytes _ _ _, hQ⟩) fun obj s₁ h₁ => ?_
  exact ⟨h₁.1, F.args_object_init_2 obj _, object_init_meets F.bm_called.init.lookup F.bm_called.made (by decide) prog w A.in1 _ s₁ ⟨h₁.1, rfl, h₁.2⟩⟩

theorem call_upper {t : Tok} {Q : Value → Shared → Prop} (hz : b.size ≤ sizeLine) (hQ : Q (.bytes (b.toList.map Builtin.Bytes.toUpper).toArray s.toks) { s with toks := s.toks + 1 }) :
    wpAny (model prog w) A (call (.builtin "bytes.upper") [.bytes b t]) Q E s := by
  refine wpAny_call_entry FA.slot_upper (typeIs_bytes _ _ _) FA.entry_upper ?_ (FA.args_upper _)
  show wpAny _ _ (do ret (← mkBytes (b.toList.map Builtin.Bytes.toUpper).toArray)) _ _ s
  exact wpAny_bind (wpAny_mkBytes (wpAny_pure ⟨_, rfl, hQ⟩) (by simpa using hz))
end
end Mine
end

section
open PySem PySem.W PyProof.Rows PySem.Calls
set_option maxRecDepth 100000
namespace Mine
/-- the bytes in a list, one behind the other -/
def glue (bs : List (Array UInt8)) : Array UInt8 := bs.foldl (· ++ ·) #[]
theorem joined_empty (bs : List (Array UInt8)) : Builtin.Bytes.joined #[] bs = glue bs := by
  have key : ∀ (bs : List (Array UInt8)) (k : Nat) (acc : Array UInt8), (bs.zipIdx k).foldl (fun out x => (if x.2 > 0 then out ++ #[] else out) ++ x.1) acc = bs.foldl (· ++ ·) acc := by
    intro bs
    induction bs with
    | nil => intro k acc; rfl
    | cons b bs ih =>
      intro k acc
      rw [List.zipIdx_cons, List.foldl_cons, List.foldl_cons, ih]
      congr 1
      split <;> simp
  exact key bs 0 #[]

theorem glue_size (bs : List (Array UInt8)) : (glue bs).size = bs.foldl (fun n b => n + b.size) 0 := by
  have key : ∀ (bs : List (Array UInt8)) (acc : Array UInt8), (bs.foldl (· ++ ·) acc).size = bs.foldl (fun n b => n + b.size) acc.size := by
    intro bs
    induction bs with
    | nil => intro acc; rfl
    | cons b bs ih => intro acc; rw [List.foldl_cons, List.foldl_cons, ih, Array.size_append]
  exact key bs #[]
theorem getD_of {vs : List Value} {i : Nat} {v : Value} (h : vs[i]? = some v) : vs.toArray.getD i Value.none = v := by
  rw [Array.getD_eq_getD_getElem?, List.getElem?_toArray, h]
  rfl

/-- a list of bytes values -/
def BytesAre (vs : List Value) (bs : List (Array UInt8)) : Prop := vs.length = bs.length ∧ ∀ (i : Nat) (b : Array UInt8), bs[i]? = some b → ∃ t, vs[i]? = some (Value.bytes b t)

section
variable {prog : Program} {w : World} {A : Around} {E : Value → Shared → Prop} {s : Shared} {l : Addr}

theorem letGo_taken {M : Model} {Q : Unit → Shared → Prop} (keep : List Value) : ∀ (taken : List (Value × Option Value)), (∀ x ∈ taken, x.2 = none) → Q () s → wpAny M A (Builtin.Bytes.joinLetGo taken keep) Q E s
  | [], _, h => wpAny_pure h
  | (x, w) :: rest, hn, h => by
    have e : w = none := hn (x, w) (List.mem_cons_self ..)
    subst e
    rw [Builtin.Bytes.joinLetGo]
    refine wpAny_bind (wpAny_letGo ?_)
    · exact letGo_taken keep rest (fun y hy => hn y (List.mem_cons_of_mem _ hy)) h
    · intro _ e; cases e

theorem take_buffer {id : String} {b : Array UInt8} {t : Tok} : Builtin.Bytes.takeBufferQuiet? id (.bytes b t) 0 = pure (some (b, none)) := by
  unfold Builtin.Bytes.takeBufferQuiet? Builtin.Bytes.takeBuffer?
  have e : ((0 : Int) == Builtin.Bytes.fullReadOnly) = false := by decide
  rw [KBy.special_eq KBy.look_buffer, KBy.own_buffer]
  simp only [e]
  rw [KBy.buffer_eq]
  rfl

theorem call_join {vs : List Value} {bs : List (Array UInt8)} {t : Tok} {Q : Value → Shared → Prop} (hl : s.heap.IsList l vs.toArray) (hb : BytesAre vs bs) (hz : (glue bs).size ≤ sizeLine)
    (hQ : ∀ t' k, Q (.bytes (glue bs) t') { s with toks := k }) : wpAny (model prog w) A (call (.builtin "bytes.join") [.bytes #[] t, .ref l]) Q E s := by
  obtain ⟨o, ho, hc, n, hd⟩ := id hl
  refine wpAny_call_entry FA.slot_join (typeIs_bytes _ _ _) FA.entry_join ?_ (FA.args_join _ _)
  unfold Builtin.«bytes.join» Builtin.Bytes.joinM
  refine wpAny_bind (wpAny_of_eq (a := ((.bytes #[] t : Value), (.ref l : Value))) rfl ?_)
  show wpAny _ _ (Builtin.Bytes.joinItems (.ref l) >>= fun r => _) _ _ s
  refine wpAny_bind ?_
  unfold Builtin.Bytes.joinItems
  refine wpAny_bind (wpAny_typeOf hl.typeIs ?_)
  refine bm_if_true (by decide) ?_
  refine wpAny_pure ?_
  refine wpAny_bind (wpAny_seqItems ho hd ?_)
  refine bm_if_true rfl ?_
  have hlen := hb.1
  by_cases hone : ∃ x, vs = [x]
  · obtain ⟨x, rfl⟩ := hone
    obtain ⟨b, rfl⟩ : ∃ b, bs = [b] := List.length_eq_one_iff.mp hlen.symm
    obtain ⟨t', ht⟩ := hb.2 0 b rfl
    have e2 : x = Value.bytes b t' := by simpa using ht
    subst e2
    show wpAny _ _ (typeOf (Value.bytes b t') >>= _) _ _ _
    refine wpAny_bind (wpAny_typeOf (typeIs_bytes s b t') ?_)
    refine bm_if_true (by decide) ?_
    refine wpAny_bind (wpAny_rule ?_)
    have e3 : glue [b] = b := by simp [glue]
    rw [e3] at hQ
    exact wpAny_pure ⟨_, rfl, hQ t' s.toks⟩
  · rcases vs with _ | ⟨x, _ | ⟨y, r⟩⟩
    case neg.cons.nil => exact absurd ⟨x, rfl⟩ hone
    all_goals
      refine wpAny_bind ?_
      rw [Std.Legacy.Range.forIn_eq_forIn_range']
      refine wpAny_forIn_list _ (fun rest st s' => ∃ k, rest = List.range' k (bs.length - k) ∧ k ≤ bs.length ∧ st.1 = (bs.take k).toArray ∧ (∀ x ∈ st.2, x.2 = none ∧ x.1.onHeap = false) ∧ s' = s) _ ?_ ?_ _ _
        ⟨0, by rw [← hlen]; simp [Std.Legacy.Range.size], Nat.zero_le _, by simp, by simp, rfl⟩
      · rintro i rest st s' ⟨k, hk, hkl, h1, h2, rfl⟩
        have hlt : k < bs.length := by
          rcases Nat.lt_or_ge k bs.length with h | h
          · exact h
          · rw [Nat.sub_eq_zero_of_le h] at hk
            cases hk
        obtain ⟨n', hn'⟩ : ∃ n', bs.length - k = n' + 1 := ⟨bs.length - k - 1, by omega⟩
        rw [hn', List.range'_succ] at hk
        injection hk with hi hrest
        subst hi
        have hbi : bs[i]? = some bs[i] := List.getElem?_eq_getElem hlt
        obtain ⟨t', ht⟩ := hb.2 i _ hbi
        dsimp only
        refine wpAny_bind (wpAny_seqItems ho hd ?_)
        dsimp only
        rw [getD_of ht]
        have hany : (st.2.any fun x => x.1.onHeap) = false := List.any_eq_false.mpr fun x hx => by rw [(h2 x hx).2]; exact Bool.false_ne_true
        refine bm_if_false (by rw [hany]; rfl) ?_
        refine wpAny_bind (wpAny_holding (wpAny_of_eq take_buffer ?_))
        dsimp only
        refine wpAny_bind (wpAny_seqItems ho hd ?_)
        dsimp only
        refine bm_if_false (by simp) ?_
        refine wpAny_pure ⟨i + 1, ?_, hlt, ?_, ?_, rfl⟩
        · rw [hrest]
          congr 1
          omega
        · dsimp only
          rw [h1, List.take_add_one, hbi]
          simp
        · intro x hx
          rcases List.mem_append.mp hx with hx | hx
          · exact h2 x hx
          · rw [List.mem_singleton.mp hx]
            exact ⟨rfl, rfl⟩
      · rintro st s' ⟨k, hk, hkl, h1, h2, rfl⟩
        have hkb : k = bs.length := by
          rcases Nat.lt_or_ge k bs.length with h | h
          · obtain ⟨n', hn'⟩ : ∃ n', bs.length - k = n' + 1 := ⟨bs.length - k - 1, by omega⟩
            rw [hn', List.range'_succ] at hk
            cases hk
          · omega
        subst hkb
        rw [List.take_length] at h1
        dsimp only
        refine wpAny_bind (wpAny_of_eq (a := (#[] : Array UInt8)) rfl ?_)
        rw [h1]
        refine bm_if_false ?_ ?_
        · unfold Builtin.Bytes.tooLong
          refine decide_eq_false ?_
          have e : Array.foldl (fun x1 x2 => x1 + x2.size) ((#[] : Array UInt8).size * (bs.toArray.size - 1)) bs.toArray = (glue bs).size := by
            rw [List.foldl_toArray, glue_size]
            simp
          rw [e]
          exact Nat.not_lt.mpr hz
        · show wpAny _ _ (mkBytes _ >>= _) _ _ _
          rw [joined_empty]
          refine wpAny_bind (wpAny_mkBytes ?_ hz)
          refine wpAny_bind (wpAny_holding (wpAny_point ?_))
          refine wpAny_bind (letGo_taken _ _ (fun x hx => (h2 x hx).1) ?_)
          exact wpAny_pure ⟨_, rfl, hQ _ _⟩
end
end Mine
end

section
open PySem PySem.W PyProof.Rows PySem.Calls
set_option maxRecDepth 100000
namespace Mine
section
variable {M : Model} {A : Around} {E : Value → Shared → Prop} {s : Shared} {env : Env}

theorem wpC_execs_cons {st : Stmt} {rest : List Stmt} {Q : Flow → Shared → Prop}
    (h : wpC M A (exec st env) (fun f s' => match f with | .next => wpC M A (execs rest env) Q E s' | f => Q f s') E s) : wpC M A (execs (st :: rest) env) Q E s := by
  rw [execs_cons]
  refine wpC_bind (wpC_mono h (fun f s' h' => ?_) fun _ _ x => x)
  cases f <;> first | exact h' | exact wpC_pure h'
theorem wpC_execs_nil {Q : Flow → Shared → Prop} (h : Q .next s) : wpC M A (execs [] env) Q E s := wpC_any (wpAny_execs_nil h)

theorem wpC_Assign_Name {x : Str} {pos' pos : Pos} {value : Expr} {Q : Flow → Shared → Prop}
    (h : wpC M A (eval value env) (fun v s₁ => wpC M A (storeName env x v) (fun _ => Q .next) E s₁) E s)
    (hs : swapsWith value (some (.Name x pos')) pos.line env = pure false := by rfl) : wpC M A (exec (.Assign [.Name x pos'] value pos) env) Q E s := by
  rw [exec_Assign_Name env x pos' value pos hs]
  refine wpC_bind (wpC_standAt (wpC_bind (wpC_mono h (fun v s₁ h₁ => wpC_bind (wpC_standAt (wpC_bind ?_))) fun _ _ x => x)))
  unfold bindName
  exact wpC_bind (wpC_any (wpAny_holding (wpAny_point (wpC_bind (wpC_mono h₁ (fun _ s₂ h₂ => wpC_any (wpAny_point (wpC_pure h₂))) fun _ _ x => x)))))

theorem wpC_If {test : Expr} {body orelse : List Stmt} {pos : Pos} {Q : Flow → Shared → Prop}
    (h : wpC M A (isTrue test env (eval test env)) (fun b s₂ => if b = true then wpC M A (execs body env) Q E s₂ else wpC M A (execs orelse env) Q E s₂) E s) :
    wpC M A (exec (.If test body orelse pos) env) Q E s := by
  rw [exec_If]
  refine wpC_bind (wpC_standAt (wpC_bind (wpC_mono h (fun b s₂ h₂ => ?_) fun _ _ x => x)))
  cases b <;> exact h₂

theorem wpC_Expr {e : Expr} {pos : Pos} {Q : Flow → Shared → Prop} (h : wpC M A (eval e env) (fun v s' => v = .none ∧ Q .next s') E s)
    (hi : interactive env = false := by rfl) (hs : swapsWith e none pos.line env = pure false := by rfl) : wpC M A (exec (.Expr e pos) env) Q E s := by
  rw [exec_Expr env e pos hi hs]
  refine wpC_bind (wpC_standAt (wpC_bind (wpC_mono h (fun v s' h' => ?_) fun _ _ x => x)))
  obtain ⟨rfl, hq⟩ := h'
  rw [dropValue_plain (v := .none) (by intro a e; cases e)]
  exact wpC_pure hq

theorem wpC_Call_Attribute {o : Expr} {name : Str} {apos pos : Pos} {args : List Expr} {pl : Sem Bool} {Q : Value → Shared → Prop}
    (h : wpC M A (eval o env) (fun ov s₁ => wpC M A (getMethod ov name pl) (fun fx s₂ => wpC M A (callWith pos fx.1 fx.2 (backTo pos (starEach args env)) []) Q E s₂) E s₁) E s)
    (he : eval (.Call (.Attribute o name apos) args [] pos) env = (do
      let ov ← eval o env
      standAt apos.atName
      let (f, first) ← holding [ov] (getMethod ov name pl)
      callWith pos f first (backTo pos (starEach args env)) []) := by rfl) : wpC M A (eval (.Call (.Attribute o name apos) args [] pos) env) Q E s := by
  rw [he]
  exact wpC_bind (wpC_mono h (fun ov s₁ h₁ => wpC_bind (wpC_standAt (wpC_bind (wpC_holding (wpC_mono h₁ (fun fx s₂ h₂ => h₂) fun _ _ x => x))))) fun _ _ x => x)

theorem wpC_Call_Name {x : Str} {npos pos : Pos} {args : List Expr} {Q : Value → Shared → Prop}
    (h : wpC M A (eval (.Name x npos) env) (fun f s₁ => wpC M A (callWith pos f [] (backTo pos (starEach args env)) []) Q E s₁) E s) : wpC M A (eval (.Call (.Name x npos) args [] pos) env) Q E s := by
  show wpC M A (eval (.Name x npos) env >>= fun f => callWith pos f [] (backTo pos (starEach args env)) []) Q E s
  exact wpC_bind h

theorem wpC_spliced_nil {pos : Pos} {Q : List Value → Shared → Prop} (h : Q [] s) : wpC M A (spliced (backTo pos (starEach [] env))) Q E s := wpC_pure h
theorem wpC_spliced_cons {e : Expr} {rest : List Expr} {pos : Pos} {Q : List Value → Shared → Prop}
    (h : wpC M A (eval e env) (fun v s₁ => wpC M A (spliced (backTo pos (starEach rest env))) (fun vs s₂ => Q (v :: vs) s₂) E s₁) E s)
    (he : starEach (e :: rest) env = (false, eval e env) :: starEach rest env := by rfl) : wpC M A (spliced (backTo pos (starEach (e :: rest) env))) Q E s := by
  rw [he]
  show wpC M A (spliced ((false, eval e env) :: backTo pos (starEach rest env))) Q E s
  rw [spliced]
  refine wpC_bind (wpC_mono h (fun v s₁ h₁ => ?_) fun _ _ x => x)
  simp only [Bool.false_eq_true, if_false]
  exact wpC_bind (wpC_pure (wpC_bind (wpC_holding (wpC_mono h₁ (fun vs s₂ h₂ => wpC_pure h₂) fun _ _ x => x))))

theorem wpC_evalArgs {f : Value} {args : List Expr} {pos : Pos} {Q : Args → Shared → Prop} (h : wpC M A (spliced (backTo pos (starEach args env))) (fun vs s' => Q ⟨vs, []⟩ s') E s)
    (he : evalArgs f true (backTo pos (starEach args env)) [] = (spliced (backTo pos (starEach args env)) >>= fun vs => holding (vs ++ []) (pure ⟨vs, []⟩)) := by rfl) :
    wpC M A (evalArgs f true (backTo pos (starEach args env)) []) Q E s := by
  rw [he]
  exact wpC_bind (wpC_mono h (fun vs s' h' => wpC_holding (wpC_pure h')) fun _ _ x => x)

/-- a call: the arguments, then the callee (its keeper is looked up in between) -/
theorem wpC_callWith {pos : Pos} {f : Value} {first : List Value} {args : List Expr} {Q : Value → Shared → Prop} (hplain : (backTo pos (starEach args env)).any (·.1) = false)
    (h : wpC M A (evalArgs f true (backTo pos (starEach args env)) []) (fun a s₁ => (∃ k, (k = Keeper.frame ∨ k = Keeper.machine) ∧ Looks M s₁.heap (keeperOf f) k) ∧ wpC M A (call f (first ++ a.pos) a.kw) Q E s₁) E s) :
    wpC M A (callWith pos f first (backTo pos (starEach args env)) []) Q E s := by
  unfold callWith
  refine wpC_bind (wpC_holding (wpC_mono h (fun a s₁ h₁ => wpC_bind (wpC_standAt ?_)) fun _ _ x => x))
  obtain ⟨⟨k, hk, L⟩, hc⟩ := h₁
  simp only [hplain, List.any_nil, Bool.or_false]
  refine wpC_bind (wpC_any (L.here ?_))
  have tail : ∀ {t : Sem Value}, wpC M A t Q E s₁ → wpC M A (t >>= fun r => holding [r] point >>= fun _ => pure r) Q E s₁ :=
    fun ht => wpC_bind (wpC_mono ht (fun r s₂ hr => wpC_bind (wpC_any (wpAny_holding (wpAny_point (wpC_pure hr))))) fun _ _ x => x)
  have marked (mk : Value) : wpC M A (callMarked mk f (first ++ a.pos) a.kw) Q E s₁ := by unfold callMarked; exact wpC_keep hc
  rcases hk with rfl | rfl <;> dsimp only <;> first | exact tail hc | (split <;> first | exact tail hc | exact tail (marked _))
theorem looks_builtin {id : String} {h : Heap} : ∃ k, (k = Keeper.frame ∨ k = Keeper.machine) ∧ Looks M h (keeperOf (.builtin id)) k := ⟨_, .inr rfl, .now⟩
theorem looks_type {id : String} {h : Heap} : ∃ k, (k = Keeper.frame ∨ k = Keeper.machine) ∧ Looks M h (keeperOf (.type id)) k := ⟨_, .inr rfl, .now⟩
end

section
variable {prog : Program} {w : World} {A : Around} {E : Value → Shared → Prop} {s : Shared} {R : Result → Shared → Prop}

theorem codeC_func {body : List Stmt} {env : Env}
    (h : wpC (model prog w) (A.deeper env) (execs body env) (fun f s' => R (.ok (.ret (match f with | .ret v => v | _ => .none))) s') noE s) :
    codeC (model prog w) A (.func body env) R s := by
  refine codeC_of_tree rfl ?_
  show wpC _ (A.deeper env) (do point; match ← (execs body env).onRaise (leaving env) with | .ret v => ret v | _ => ret .none) _ _ s
  refine wpC_bind (wpC_any (wpAny_point (wpC_bind (wpC_onRaise (wpC_mono h (fun f s' h' => ?_) fun _ _ h' => h')))))
  cases f <;> exact wpC_pure h'

theorem codeC_call_function {a : Addr} {args : Args} {o : Obj} {fd : FuncData} {body : List Stmt} (hroom : A.depth < recursionLimit)
    (ho : s.heap.get? a = some o) (hd' : o.data = .func fd) (hco : fd.scope.isCoroutine = false) (hgen : fd.scope.isGenerator = false) (hbody : fd.body = .stmts body) (hcd : s.heap.CodeRec fd.code fd.qualname)
    (h : wpAny (model prog w) A.in1 (bindArgs fd args) (fun binds s₁ =>
      wpAny (model prog w) A.in1 (newFunctionEnv fd.scope fd.globals fd.closure binds (fd.qualname ++ ".<locals>.") (some a) fd.code none fd.builtins)
        (fun env s₂ => s₂.heap.NoLimit ∧ codeC (model prog w) A (.func body env) R s₂) (fun e s' => R (.error e) s') s₁) (fun e s' => R (.error e) s') s) :
    codeC (model prog w) A (.call (.ref a) args) R s := by
  refine codeC_of_tree rfl (wpC_any ?_)
  show wpAny _ A.in1 (callAny (.ref a) args) _ _ s
  simp only [callAny]
  refine wpAny_bind (wpAny_load ho ?_)
  obtain ⟨c, oc, vs, tq, hc, hoc, hdc, hq⟩ := hcd
  simp only [hd', callFunction, hco, hgen, hbody, hc]
  rw [hc] at h
  refine wpAny_bind (m := field (.ref c) 1) (wpAny_field hoc hdc hq (wpAny_bind (wpAny_pure ?_)))
  exact wpAny_bind (wpAny_mono h (fun binds s₁ h₁ => wpAny_bind (wpAny_mono h₁ (fun env s₂ h₂ => wpAny_bind (wpAny_enterFrame h₂.1 hroom
    (wpAny_pure (And.intro rfl h₂.2)))) fun _ _ h' => h')) fun _ _ h' => h')

/-- a while whose turns do not raise: an invariant over a number that falls -/
theorem wpC_While {test : Expr} {body : List Stmt} {pos : Pos} {env : Env} {Q : Flow → Shared → Prop} (I : Nat → Shared → Prop)
    (turn : ∀ n s, I n s → wpC (model prog w) A (isTrue test env (eval test env)) (fun b s₂ =>
        if b = true then wpC (model prog w) A (execs body env) (fun f s₃ => match f with
            | .next | .cont => ∃ m, m < n ∧ I m s₃
            | .brk => Q .next s₃
            | .ret v => Q (.ret v) s₃) noE s₂
        else Q .next s₂) noE s)
    (n : Nat) (h : I n s) : wpC (model prog w) A (exec (.While test body [] pos) env) Q E s := by
  rw [exec_While]
  refine wpC_bind (wpC_standAt ?_)
  unfold runOwn
  refine wpC_onRaise (wpC_run ?_)
  refine codeC_loop rfl rfl I (fun n s hI => ?_) n h
  show wpC _ A ((whileTurn test body [] env).onRaise _) _ _ s
  refine wpC_onRaise ?_
  simp only [whileTurn]
  refine wpC_bind (wpC_mono (turn n s hI) (fun b s₂ h₂ => ?_) fun _ _ h' => h')
  cases b with
  | false =>
    simp only [Bool.false_eq_true, if_false] at h₂ ⊢
    exact wpC_bind (wpC_execs_nil (wpC_pure h₂))
  | true =>
    simp only [if_true] at h₂ ⊢
    refine wpC_bind (wpC_mono h₂ (fun f s₃ h₃ => ?_) fun _ _ h' => h')
    cases f with
    | next => exact wpC_pure ⟨rfl, h₃⟩
    | cont => exact wpC_pure ⟨rfl, h₃⟩
    | brk => exact wpC_pure h₃
    | ret v => exact wpC_pure h₃
end
end Mine
end

section
open PySem PySem.W PyProof.Rows PySem.Calls
set_option maxRecDepth 100000
namespace Mine
section
variable {M : Model} {A : Around} {s : Shared} {env : Env}

theorem wpC_comprehension {e : Expr} {scope : Scope} {pos : Pos} {newAcc first : Sem Value} {g : Comprehension} {gs : List Comprehension} {cl : List (Str × Addr)} {Q : Value → Shared → Prop}
    (hcl : clausesOf e = g :: gs) (hs : ∀ x, foldedSetIterable g.iter env x = pure x) (hclos : closureFor scope env = pure cl)
    (hkind : scope.kind = .function) (hnames : ∀ x ∈ scope.names, x.2 = .local → scope.names.lookup x.1 = some .local)
    (h : wpAny M A first (fun x s₁ => wpAny M A (pyIter x) (fun it s₂ => wpAny M A newAcc (fun acc s₃ =>
      wpAny M A (newFunctionEnv scope env.globals cl [] env.qual none .none (some env)) (fun cenv s₄ =>
        codeC M A (.compStart e 0 it acc { cenv with scope := relabel scope env }) (fun r s' => (∃ f, r = .ok f) ∧ ∃ m, s'.heap.Ns cenv.locals m ∧ ∀ h', Heap.SameBut cenv.locals s'.heap h' → Q acc { s' with heap := h' }) s₄) noE s₃) noE s₂) noE s₁) noE s) :
    wpC M A (comprehension e scope env pos newAcc false first) Q noE s := by
  unfold comprehension
  rw [hclos, hcl]
  refine wpC_bind (wpC_any (wpAny_mono h (fun x s₁ h₁ => wpC_bind (wpC_standAt (wpC_bind (wpC_of_eq (hs x) (wpC_bind (wpC_holding (wpC_any (wpAny_mono h₁ (fun it s₂ h₂ => ?_) fun _ _ y => y)))))))) fun _ _ y => y))
  show wpC M A (newAcc >>= fun acc => _) Q noE s₂
  refine wpC_bind (wpC_any (wpAny_mono h₂ (fun acc s₃ h₃ => wpC_bind (wpC_pure (wpC_bind (wpC_any (wpAny_mono h₃ (fun cenv s₄ h₄ => ?_) fun _ _ y => y))))) fun _ _ y => y))
  dsimp only
  have hv : ∀ x ∈ (scope.names.filter fun x => (x.2 == .local || x.2 == .cell) && x.1 != (".0" : Str)).reverse, x.2 = .local →
      Env.kindOf { cenv with scope := relabel scope env } x.1 = some .local := fun x hx hl => lookup_relabel_local (hnames x (List.mem_filter.mp (List.mem_reverse.mp hx)).1 hl)
  refine wpC_holding (wpC_bind (wpC_attempt (wpC_holding (wpC_run (codeC_mono h₄ fun r s' hr => ?_)))))
  obtain ⟨⟨f, rfl⟩, m, hn, hr⟩ := hr
  exact wpC_bind (wpC_holding (wpC_any (wpAny_comp_letGo (cenv := { cenv with scope := relabel scope env }) hkind _ s' m hv hn fun h' m' _ hs' => wpC_pure (hr h' hs'))))
end

section
variable {prog : Program} {w : World} {A : Around} {s : Shared} {env : Env}

theorem codeC_compStart {elt target iter : Expr} {ifs : List Expr} {rest : List Comprehension} {scope : Scope} {pos : Pos} {it l : Addr} {i : Nat} {acc : Value} {R : Result → Shared → Prop}
    (hit : s.heap.IsListIter it l i)
    (h : codeC (model prog w) A (.compLoop (.ListComp elt (⟨target, iter, ifs, 0⟩ :: rest) scope pos) 0 (.ref it) acc env) R s) :
    codeC (model prog w) A (.compStart (.ListComp elt (⟨target, iter, ifs, 0⟩ :: rest) scope pos) 0 (.ref it) acc env) R s := by
  refine codeC_of_tree rfl ?_
  show wpC _ _ ((compStart (.ListComp elt (⟨target, iter, ifs, 0⟩ :: rest) scope pos) 0 (.ref it) acc env).onRaise _) _ _ s
  refine wpC_onRaise (wpC_any ?_)
  unfold compStart
  show wpAny _ _ (ask >>= _) _ _ s
  refine wpAny_bind (wpAny_askSetting (wpAny_ite ?_))
  split
  · first
      | exact wpAny_bind (wpAny_pure (wpAny_pure (And.intro rfl h)))
      | exact wpAny_pure (And.intro rfl h)
  · refine wpAny_bind (wpAny_rule ?_)
    show wpAny _ _ (standAt iter.pos >>= _) _ _ s
    exact wpAny_bind (wpAny_standAt (wpAny_bind (wpAny_pyIter_listiter hit (wpAny_pure (And.intro rfl h)))))

theorem codeC_compLoop {elt target iter : Expr} {scope : Scope} {pos : Pos} {it acc : Value} {R : Result → Shared → Prop} (I : Nat → Shared → Prop)
    (turn : ∀ n s, I n s → wpAny (model prog w) A (pyNext it) (fun r s₁ => match r with
      | none => R (.ok .next) s₁
      | some v => wpAny (model prog w) A (assign target env v) (fun _ s₂ => wpC (model prog w) A (eval elt env) (fun x s₃ =>
          wpAny (model prog w) A (call (.builtin "list.append") [acc, x]) (fun _ s₄ => ∃ m, m < n ∧ I m s₄) noE s₃) noE s₂) noE s₁) noE s)
    (n : Nat) (h : I n s) (ht : ∀ v, letOwnedTupleGo target it v = pure () := by intro _; rfl) :
    codeC (model prog w) A (.compLoop (.ListComp elt [⟨target, iter, [], 0⟩] scope pos) 0 it acc env) R s := by
  refine codeC_loop rfl rfl I (fun n s hI => ?_) n h
  show wpC _ _ ((compTurn (.ListComp elt [⟨target, iter, [], 0⟩] scope pos) 0 it acc env).onRaise _) _ _ s
  refine wpC_onRaise ?_
  rw [compTurn_list1]
  refine wpC_bind (wpC_standAt (wpC_bind (wpC_any (wpAny_mono (turn n s hI) (fun r s₁ h₁ => ?_) fun _ _ h' => h'))))
  cases r with
  | none => exact wpC_pure h₁
  | some v =>
    refine wpC_bind (wpC_of_eq (ht v) ?_)
    exact wpC_bind (wpC_any (wpAny_mono h₁ (fun _ s₂ h₂ => wpC_bind (wpC_bind (wpC_mono h₂ (fun x s₃ h₃ => wpC_bind (wpC_any (wpAny_mono h₃
      (fun _ s₄ h₄ => wpC_pure (wpC_pure ⟨rfl, h₄⟩)) fun _ _ h' => h'))) fun _ _ h' => h'))) fun _ _ h' => h'))

/-- a list comprehension over a list, without a test, its element walked in wpC and leaving what stood -/
theorem wpC_ListComp {elt iter : Expr} {x : Str} {px : Pos} {scope : Scope} {cl : List (Str × Addr)} {pos : Pos} {l : Addr} {vs : List Value} {E : Value → Shared → Prop} {Q : Value → Shared → Prop} (F : Nat → Value → Prop)
    (hh : A.handled = none) (hclos : closureFor scope env = pure cl) (hcell : ∀ y ∈ scope.names, y.2 ≠ .cell) (hkind : scope.kind = .function)
    (hnames : ∀ y ∈ scope.names, y.2 = .local → scope.names.lookup y.1 = some .local) (hx : scope.names.lookup x = some .local)
    (hiter : wpAny (model prog w) A (eval iter env) (fun v s₁ => v = .ref l ∧ s₁ = s) noE s) (hl : s.heap.IsList l vs.toArray) (hsz : vs.length ≤ sizeLine)
    (helt : ∀ C i v s₃ m₃, s.heap.objs.size ≤ C → vs[i]? = some v → s₃.heap.Ns C m₃ → m₃ x = some v → (∀ b o, s.heap.get? b = some o → s₃.heap.get? b = some o) →
      (∃ h tk, s₃ = { s with heap := h, toks := tk }) →
      wpC (model prog w) A (eval elt (compEnvC scope cl C env)) (fun y s₄ => F i y ∧ ∃ h' tk, s₄ = { s₃ with heap := h', toks := tk } ∧ ∀ b o, s₃.heap.get? b = some o → h'.get? b = some o) noE s₃)
    (hQ : ∀ D h' tk (ys : List Value), s.heap.get? D = none → h'.IsList D ys.toArray → ys.length = vs.length → (∀ i y, ys[i]? = some y → F i y) →
      (∀ b o, s.heap.get? b = some o → h'.get? b = some o) → Q (.ref D) { s with heap := h', toks := tk })
    (hs : ∀ x, foldedSetIterable iter env x = pure x := by intro _; rfl) :
    wpC (model prog w) A (eval (.ListComp elt [⟨.Name x px, iter, [], 0⟩] scope pos) env) Q E s := by
  refine wpC_noE ?_
  rw [eval_ListComp]
  refine wpC_comprehension rfl hs hclos hkind hnames (wpAny_mono hiter (fun v s₁ h₁ => ?_) fun _ _ y => y)
  obtain ⟨rfl, rfl⟩ := h₁
  refine wpAny_pyIter_list hl ?_
  generalize hH1 : s₁.heap.push { cls := .type "list_iterator", data := .fields #[.ref l, .int 0 0] } = H1
  have s1 : H1.objs.size = s₁.heap.objs.size + 1 := by rw [← hH1, Heap.size_push]
  have it1 : H1.IsListIter s₁.heap.objs.size l 0 := hH1 ▸ ⟨_, Heap.get?_push_size _ rfl, rfl, rfl⟩
  have k1 : ∀ b o, s₁.heap.get? b = some o → H1.get? b = some o := fun b o e => hH1 ▸ Heap.get?_push_of_some _ e
  refine wpAny_newObj_type (s := { s₁ with heap := H1 }) (wpAny_newFunctionEnv hcell (by intro y hy; simp at hy) (fun h₁ hns₁ hsb₁ => ?_) hkind)
  dsimp only at hns₁ hsb₁ ⊢
  generalize hH2 : H1.push { cls := .type "list", dict := none, data := .seq ([] : List Value).toArray } = H2 at hns₁ hsb₁ ⊢
  have s2 : H2.objs.size = s₁.heap.objs.size + 2 := by rw [← hH2, Heap.size_push, s1]
  have k2 : ∀ b o, H1.get? b = some o → H2.get? b = some o := fun b o e => hH2 ▸ Heap.get?_push_of_some _ e
  have acc2 : H2.IsList H1.objs.size #[] := hH2 ▸ ⟨_, Heap.get?_push_size _ rfl, rfl, 0, rfl⟩
  have k3 : ∀ b o, H2.get? b = some o → h₁.get? b = some o := fun b o e => hsb₁.extBut b o (Nat.ne_of_lt (Heap.lt_size e)) (Heap.get?_push_of_some _ e)
  have it3 : h₁.IsListIter s₁.heap.objs.size l 0 := let ⟨o, ho, r⟩ := it1; ⟨o, k3 _ _ (k2 _ _ ho), r⟩
  have acc3 : h₁.IsList H1.objs.size ([] : List Value).toArray := let ⟨o, ho, r⟩ := acc2; ⟨o, k3 _ _ ho, r⟩
  have nIC : s₁.heap.objs.size ≠ H2.objs.size := by rw [s2]; omega
  have nID : s₁.heap.objs.size ≠ H1.objs.size := by rw [s1]; omega
  have nDC : H1.objs.size ≠ H2.objs.size := by rw [s1, s2]; omega
  have old : ∀ b o, s₁.heap.get? b = some o → b ≠ s₁.heap.objs.size ∧ b ≠ H1.objs.size ∧ b ≠ H2.objs.size := fun b o e => by
    have := Heap.lt_size e
    rw [s1, s2]
    exact ⟨Nat.ne_of_lt this, Nat.ne_of_lt (Nat.lt_succ_of_lt this), Nat.ne_of_lt (Nat.lt_succ_of_lt (Nat.lt_succ_of_lt this))⟩
  have fresh : ∀ a, s₁.heap.objs.size ≤ a → s₁.heap.get? a = none := fun a ha => by
    cases e : s₁.heap.get? a with
    | none => rfl
    | some o' => exact absurd (Heap.lt_size e) (Nat.not_lt.mpr ha)
  show codeC _ A (.compStart (.ListComp elt [⟨.Name x px, iter, [], 0⟩] scope pos) 0 (.ref s₁.heap.objs.size) (.ref H1.objs.size) (compEnvC scope cl H2.objs.size env)) _ _
  refine codeC_compStart (i := 0) (l := l) it3 ?_
  refine codeC_compLoop (fun n s' => ∃ h' tk m' ys, s' = { s₁ with heap := h', toks := tk } ∧ ys.length ≤ vs.length ∧ n = vs.length - ys.length ∧ h'.IsListIter s₁.heap.objs.size l ys.length ∧ h'.IsList H1.objs.size (List.toArray ys) ∧
      (∀ (j : Nat) (y : Value), ys[j]? = some y → F j y) ∧ h'.Ns H2.objs.size m' ∧ ∀ b o, s₁.heap.get? b = some o → h'.get? b = some o) ?_ vs.length
    ⟨h₁, _, _, [], rfl, Nat.zero_le _, rfl, it3, acc3, (fun j y e => by simp at e), hns₁, fun b o e => k3 _ _ (k2 _ _ (k1 _ _ e))⟩
  rintro n s' ⟨h', tk, m', ys, rfl, hle, rfl, hit, hacc, hF, hns, hk⟩
  have hl' : h'.IsList l vs.toArray := let ⟨o, ho, r⟩ := hl; ⟨o, hk _ _ ho, r⟩
  have hlo : l ≠ s₁.heap.objs.size ∧ l ≠ H1.objs.size ∧ l ≠ H2.objs.size := let ⟨o, ho, _⟩ := hl; old l o ho
  by_cases hend : ys.length = vs.length
  · refine wpAny_pyNext_list_end (s := { s₁ with heap := h', toks := tk }) hh hit hl' (by rw [hend]; simp) fun h'' hx' => ?_
    refine ⟨⟨_, rfl⟩, m', hns.extBut hx' nIC.symm, fun h3 hs3 => ?_⟩
    refine hQ _ h3 tk ys (fresh _ (by rw [s1]; exact Nat.le_succ _)) ((hacc.extBut hx' nID.symm).extBut hs3.extBut nDC) hend hF fun b o e => ?_
    exact hs3.extBut b o (old b o e).2.2 (hx' b o (old b o e).1 (hk b o e))
  · have hlt : ys.length < vs.length := by omega
    have hv : vs[ys.length]? = some vs[ys.length] := List.getElem?_eq_getElem hlt
    refine wpAny_pyNext_list_item (s := { s₁ with heap := h', toks := tk }) hit hl' (x := vs[ys.length]) (by simp) fun h2 hit2 hs2 => ?_
    dsimp only
    refine wpAny_assign_Name (wpAny_storeName_local (lookup_relabel_local hx) (hns.sameBut hs2 nIC.symm) (fun h3 hns3 hs3 => ?_) (by simp [compEnvC, relabel, hkind]))
    refine wpC_mono (helt H2.objs.size ys.length _ _ _ (by rw [s2]; omega) hv hns3 (by simp) (fun b o e => hs3.extBut b o (old b o e).2.2 (hs2.extBut b o (old b o e).1 (hk b o e))) ⟨_, _, rfl⟩) (fun y s4 h4 => ?_) fun _ _ z => z
    obtain ⟨hFy, h5, tk5, rfl, hk5⟩ := h4
    have hacc5 : h5.IsList H1.objs.size ys.toArray := by
      obtain ⟨o, ho, r⟩ := (hacc.extBut hs2.extBut nID.symm).extBut hs3.extBut nDC
      exact ⟨o, hk5 _ _ ho, r⟩
    refine wpAny_list_append (s := { s₁ with heap := h5, toks := tk5 }) hacc5 (fun h6 hacc6 hs6 => ?_) (by simp; omega)
    have hns6 := (Heap.Ns.keeps hns3 hk5).sameBut hs6 nDC.symm
    refine ⟨vs.length - (ys.length + 1), by omega, h6, tk5, _, ys ++ [y], rfl, by simp; omega, by simp, ?_, ?_, ?_, hns6, ?_⟩
    · rw [List.length_append]
      obtain ⟨o, ho, r⟩ := hit2.extBut hs3.extBut nIC
      exact Heap.IsListIter.extBut ⟨o, hk5 _ _ ho, r⟩ hs6.extBut nID
    · simpa using hacc6
    · intro j z hz
      rw [List.getElem?_append] at hz
      split at hz
      · exact hF j z hz
      · rename_i hj
        have hj0 : j - ys.length = 0 := by
          rcases Nat.eq_zero_or_pos (j - ys.length) with h | h
          · exact h
          · rw [List.getElem?_eq_none (show List.length [y] ≤ j - ys.length from h)] at hz
            cases hz
        rw [hj0] at hz
        have : j = ys.length := by omega
        subst this
        cases hz
        exact hFy
    · exact fun b o e => hs6.extBut b o (old b o e).2.1 (hk5 _ _ (hs3.extBut b o (old b o e).2.2 (hs2.extBut b o (old b o e).1 (hk b o e))))
end
end Mine
end

section
open PySem PySem.W PyProof.Rows PySem.Calls PySem.Spec
set_option maxRecDepth 100000
namespace Mine

/-- what the walk of a call owes, over clear contexts -/
abbrev WalkC (q : Program) (loose : List Str) (XP : (Str → Option Value) → Heap → Prop) (YP : World → Heap → Prop) (r : RowW) (d : DefRec) (kwd : List (Str × Expr)) : Prop :=
  ∀ (w : World) (s₀ s₁ : Shared) (mg mb : Str → Option Value), Ground q loose r.records XP w s₀ mg mb s₁.heap → YP w s₁.heap → ∀ (a : Addr) (o : Obj) (pm cd doc dV kV : Value), s₁.heap.get? a = some o →
    o.data = .func { docDef d.name d.params d.body d.scope pm cd doc with defaults := dV, kwdefaults := kV } → s₁.heap.CodeRec cd d.name → Dflts mg s₁.heap d.params kwd dV kV → mg d.name = some (.ref a) → s₁.gens = #[] →
    ∀ (args : List WData) (vals : List Value) (as : List Addr), r.claim.pre args = true → WData.layableAll args = true → ReadsAllW r.records (classAt s₀.heap) s₁.heap vals args as → WellAll w.params s₁.heap vals args → (∀ a ∈ as, (a == sysModules) = false) →
      wpC (model r.prog w) callerA (PySem.call (.ref a) vals) (fun v s' => GoodWG r.claim (classAt s₀.heap) (ExcName.means s₀.heap) args s₁ (.ok (.ret v)) s')
        (fun e s' => GoodWG r.claim (classAt s₀.heap) (ExcName.means s₀.heap) args s₁ (.error e) s') s₁

theorem caller_clear : Clear [Code.builtin "claim.caller" {}] := fun c hc => by
  rw [List.mem_singleton.mp hc]
  show Builtin.Bytes.decodersThatHold.contains "claim.caller" = false
  decide +kernel

/-- the claim's own thread: its context is clear -/
theorem thread_ends {prog : Program} {w : World} {t : Sem PySem.Fin} {s : Shared} {R : Result → Shared → Prop} (hreg : s.asleep)
    (h : wpC (model prog w) callerA t (fun fin s' => ∃ f, fin = .done f ∧ (R (.ok f) s' ∧ leftWithCleanup s'.gens = false)) (fun e s' => R (.error e) s' ∧ leftWithCleanup s'.gens = false) s) :
    ∃ n r s' s'', runN (denote table) prog w n s ⟨t, .builtin "claim.caller" {}, default, []⟩ = .halted (outcomeOf r) s' ∧
      schedN (denote table) prog w n (.single s ⟨t, .builtin "claim.caller" {}, default, []⟩) = .halted (outcomeOf r) s' ∧ s'.forget = s''.forget ∧ R r s'' := by
  have h0 := h ⟨.builtin "claim.caller" {}, none, none, [], none⟩ default caller_in caller_clear
  obtain ⟨n, r, s₁, s₂, hs, hn, hfo, hR⟩ := wp_halts_full (M := model prog w) (R := R) hreg (Sem.wp_mono _ _ _ (fun fin p' s' h' => by obtain ⟨f, rfl, hf⟩ := h'; exact hf) (fun _ _ _ h' => h') _ _ h0)
  exact ⟨n, r, s₂, s₁, hn, hs, hfo, hR⟩

theorem PySem.W.holds_open {r : OpenRow} {q : Program} {loose : List Str} {Xt : Shared → Bool} {XP : (Str → Option Value) → Heap → Prop} {α : Type} {Yf : Shared → α} {Ya : World → α} {YP : World → Heap → Prop} {d : DefRec} {kwd : List (Str × Expr)} {N : Nat}
    (left : LeftO r.prog q loose Xt Yf Ya N) (hY : ∀ w s, Yf s = Ya w → YP w s.heap) (hYk : ∀ w h h', YP w h → (∀ b o, h.get? b = some o → h'.get? b = some o) → YP w h')
    (hX : ∀ s, Xt s = true → XP (s.heap.nsMap mainGlobals) s.heap) (hXk : ∀ mg h h', XP mg h → (∀ b o, h.get? b = some o → h'.get? b = some o) → XP mg h')
    (hdef : defOf q r.name = some (d, kwd)) (hp : r.prog.theDef r.name = some (d.params, d.body, d.scope)) (hk : kwWritten? d.params.kwonlyargs d.params.kw_defaults = some kwd) (hRf : ∀ s, Xt s = true → RecFacts r.records s.heap) (hwr : (!r.writes || r.records.isEmpty) = true)
    (k1 : r.wellSaid = true) (ok : (chainsOk q && opensWell r.prog && (frees r.toRowW && r.within.isEmpty)) = true) (hb : r.prog.bare) (hw : r.toRowW.promised)
    (call : WalkC q loose XP YP r.toRowW d kwd) : r.Holds := by
  obtain ⟨ok, k5⟩ := Bool.and_eq_true_iff.mp ok
  obtain ⟨hch, o1⟩ := Bool.and_eq_true_iff.mp ok
  obtain ⟨k5, k6⟩ := Bool.and_eq_true_iff.mp k5
  obtain ⟨hsame, hu, ha, hap, hm⟩ := frees_parts k5
  have hi := ident_freeW hu ha hap
  have hwi : r.claim.within = [] := List.isEmpty_iff.mp k6
  refine ⟨k1, hw, ⟨hb, o1, by show r.makers.map _ = []; rw [hm]; rfl⟩, hw.witness, fun w => ⟨(left.behind hX hch w).1, fun s' hs' => ?_⟩⟩
  obtain ⟨s₀, hf, hg0, s, hT, hz, hgens, hg, G00, y⟩ := (left.behind (XP := fun mg h => XP mg h ∧ RecFacts r.records h) (fun s hs => ⟨hX s hs, hRf s hs⟩) hch w).2 s' hs'
  have G0 : Ground q loose [] XP w s (s.heap.nsMap mainGlobals) (s.heap.nsMap builtinsNs) s.heap := ⟨G00.T, G00.B, G00.D, G00.TE, G00.TD, G00.W, G00.X.1, G00.cls, G00.has, G00.apart, G00.once, G00.K⟩
  have RF := G00.X.2
  have G : Ground q loose r.records XP w s _ _ s.heap := RF.ground G0
  have hgens : s.gens = #[] := Array.eq_empty_of_size_eq_zero (beq_iff_eq.mp hgens)
  refine ⟨s₀, hf, hg0, s, hT, fun n hn => ?_, RF.1, RF.2.1, fun args hpre hlay ord hord => ?_⟩
  · obtain rfl : n = r.name := by split at hn <;> simp_all
    exact pinned_of_view hg G0 hdef hp hk
  obtain ⟨⟨vs, s₁⟩, hlaid⟩ := Option.isSome_iff_exists.mp (layAllW_isSome (P := w.params) (ord := ord) G.has args r.args s (pre_splitW hpre).1)
  have keeps := layAllW_keeps _ _ _ hlaid
  have hal := layAllW_rest _ _ _ hlaid
  obtain ⟨as, hrd, hin, hold⟩ := reads_layAllW hord _ _ _ hlaid hlay s₁.heap (fun _ _ e => e)
  have L : Laid r.records w s s₁ args vs as := ⟨⟨ord, hord, hlaid⟩, hrd, hin, hold, keeps, hal.1.trans hgens, hal.2.2.1⟩
  have G₁ := G.keeps hXk keeps
  obtain ⟨a, o, pm, cd, doc, dV, kV, h1, h2, h3, h4, h5⟩ := G₁.fn hdef
  have h := call w s s₁ _ _ G₁ (hYk _ _ _ (hY w s y) keeps) a o pm cd doc dV kV h2 h3 h4 h5 (defOf_name hdef ▸ h1) L.gens args vs as hpre hlay L.reads L.well (L.low G.low)
  let kept : Heap → Prop := fun h' => r.writes = true → namesKept r.prog r.keeps s.heap h' ∧ ∀ x ∈ r.records, ∀ a, classAt s.heap x.1 = some a → recordClass h' a x.1 (x.2.map (·.1)) = true
  have end_of : ∀ res s', GoodWG r.claim (classAt s.heap) (ExcName.means s.heap) args s₁ res s' → (r.claim.Ends s args vs s₁ res s' ∧ s'.os = s.os ∧ kept s'.heap) ∧ leftWithCleanup s'.gens = false := fun res s' g => by
    have z := g.laid (c := r.claim) hsame hwi hi L
    exact ⟨⟨z.1, z.2.1, fun q => ⟨namesKept_of hT hg r.keeps keeps g.2.1.old, noTable hwr q⟩⟩, leftWithCleanup_false_of_bare z.2.2⟩
  obtain ⟨k, res, s', s'', hrun, hsched, hfo, hcase, hos, hkp⟩ := thread_ends (prog := r.prog) (w := w) (s := s₁) (R := fun res s' => r.claim.Ends s args vs s₁ res s' ∧ s'.os = s.os ∧ kept s'.heap)
    (t := do match ← nsGet mainNs r.name with
      | some f => do ret (← PySem.call f vs)
      | none => unsupported "claim.caller:no-such-global")
    (Shared.asleep_of_life hal.2.2.2 hz)
    (wpC_bind (wpC_any (wpAny_nsGet G₁.T.g (by rw [h1]; exact wpC_bind (wpC_mono h (fun v s' g => wpC_pure ⟨_, rfl, end_of _ _ g⟩) fun e s' g => end_of _ _ g)))))
  obtain ⟨eh, _, _, eo, _⟩ := Shared.forget_eq hfo
  have hcase := hcase.congr eh
  have hkp : kept s'.heap := by rw [eh]; exact hkp
  rw [← eo] at hos
  have hlife : s'.heap.life = s.heap.life := (runN_life _ _ _ hrun).trans hal.2.2.2
  refine ⟨vs, s₁, hlaid, k, _, s', hsched, ?_, (fun _ i x hx => by rw [hgens] at hx; simp at hx), hkp, by rw [hlife], Shared.rest_eq hos⟩
  rcases hcase with ⟨v, rfl, d1, d2, d3, d4, d5⟩ | ⟨e, ob, cls, rfl, d1, d2, d3, d4, d5⟩
  · exact .inl ⟨v, rfl, d1, d2, d3, fun b o y _ => d4 b o y, d5⟩
  · exact .inr ⟨e, ob, cls, rfl, d1, d2, d3, d4, fun b o y _ => d5 b o y⟩
end Mine
end

section
open PySem PySem.W PyProof.Rows PySem.Calls PySem.Spec
set_option maxRecDepth 100000
namespace Mine
/-- a def with cells, entered (as call_cellsN, over clear contexts; its body does not raise) -/
theorem call_cellsC {prog : Program} {w : World} {A : Around} {R : Result → Shared → Prop} {s : Shared} {name : Str} {params : Arguments} {body : List Stmt} {scope : Scope}
    {pm cd doc : Value} {a : Addr} {o : Obj} {args : List Value} {binds : List (Str × Value)}
    (hroom : A.depth < recursionLimit) (ho : s.heap.get? a = some o) (hdata : o.data = .func (Calls.docDef name params body scope pm cd doc)) (hlim : s.heap.NoLimit) (hcd : s.heap.CodeRec cd name)
    (hbind : bindArgs (Calls.docDef name params body scope pm cd doc) ⟨args, []⟩ = pure binds)
    (hkind : ∀ x ∈ binds, scope.names.lookup x.1 = some .local ∨ (scope.names.lookup x.1 = some .cell ∧ ((cellsFrom (s.heap.objs.size + 1) scope.names []).lookup x.1).isSome = true))
    (hnd : ((cellsFrom 0 scope.names []).map (·.1)).Nodup)
    (h : ∀ h₁ tk cells, Fr s.heap s.heap.objs.size h₁ (bindL (envOfC name scope s.heap.objs.size a cd).kindOf binds fun _ => none) → News s.heap s.heap.objs.size h₁ cells →
      CellsAre (bindC (envOfC name scope s.heap.objs.size a cd).kindOf binds fun _ => none) (cellsFrom (s.heap.objs.size + 1) scope.names []) cells →
      wpC (model prog w) (A.deeper (envOfC name scope s.heap.objs.size a cd)) (execs body (envOfC name scope s.heap.objs.size a cd))
        (fun f s' => R (.ok (.ret (match f with | .ret v => v | _ => .none))) s') noE { s with heap := h₁, toks := tk })
    (hco : scope.isCoroutine = false := by rfl) (hgen : scope.isGenerator = false := by rfl) (hk : scope.kind = .function := by rfl) :
    codeC (model prog w) A (.call (.ref a) ⟨args, []⟩) R s := by
  refine codeC_call_function (fd := Calls.docDef name params body scope pm cd doc) hroom ho hdata hco hgen rfl hcd ?_
  rw [hbind]
  refine wpAny_pure (wpAny_newFunctionEnv_cells hk hkind fun env' he s' x => ?_)
  subst he
  refine ⟨hlim.keeps x.toInCall.keep, codeC_func ?_⟩
  obtain ⟨h₁, tk, rfl, _⟩ := x.done
  obtain ⟨cells, NC, Y⟩ := Cl.news (h₀ := s.heap) (Nat.le_refl _) fun n c hm => ⟨x.cell n c (lookup_of_mem_nodup (cellsFrom_names scope.names 0 (s.heap.objs.size + 1) [] [] rfl ▸ hnd) hm), x.above n c hm⟩
  exact h h₁ tk cells ⟨x.toInCall.ns, x.toInCall.keep, x.toInCall.fresh⟩ NC Y
theorem enter_callC {M : Model} {A : Around} {s : Shared} {f : Value} {pos : List Value} {kw : List (Str × Value)} {c : ClaimW} {cl : Str → Option Addr} {mean : ExcName → Option Value} {args : List WData} {s₁ : Shared}
    (h : codeC M A (.call f ⟨pos, kw⟩) (GoodW c cl mean args s₁) s) : wpC M A (PySem.call f pos kw) (fun v s' => GoodWG c cl mean args s₁ (.ok (.ret v)) s') (fun e s' => GoodWG c cl mean args s₁ (.error e) s') s :=
  wpC_call (codeC_mono h fun res s' g => by rcases g.1 with ⟨v, _, _, rfl, _⟩ | ⟨e, _, _, rfl, _⟩ <;> exact g.toG)
end Mine
end

section
open PySem PySem.W PyProof.Rows PySem.Calls
namespace Mine
set_option maxRecDepth 100000 in
set_option maxHeartbeats 8000000 in
open_top hd for PySem.Challenge.rw_kg0005_01
end Mine
end

section
open PySem
namespace Mine
/-- T of the text -/
def tq (j b : Int) : Int := if 36 * (j + 1) - b < 1 then 1 else if 26 < 36 * (j + 1) - b then 26 else 36 * (j + 1) - b
theorem tq_lo (j b : Int) : 1 ≤ tq j b := by unfold tq; split; decide; split; decide; omega
theorem tq_hi (j b : Int) : tq j b ≤ 26 := by unfold tq; split; decide; split; decide; omega
/-- the digits of a number: f turns at most -/
def enc : Nat → Int → Int → Int → List Int
  | 0, N, _, _ => [N]
  | f + 1, N, j, b => if N < tq j b then [N] else (tq j b + (N - tq j b).fmod (36 - tq j b)) :: enc f ((N - tq j b).fdiv (36 - tq j b)) (j + 1) b
theorem step_lo {N t : Int} (h1 : 1 ≤ t) (h2 : t ≤ 26) (h : t ≤ N) : 0 ≤ (N - t).fdiv (36 - t) := by
  rw [Int.fdiv_eq_ediv_of_nonneg _ (by omega)]
  exact Int.ediv_nonneg (by omega) (by omega)
theorem step_hi {N t : Int} {f : Nat} (h1 : 1 ≤ t) (h2 : t ≤ 26) (h : t ≤ N) (hf : N < 10 ^ (f + 1)) : (N - t).fdiv (36 - t) < 10 ^ f := by
  rw [Int.fdiv_eq_ediv_of_nonneg _ (by omega)]
  refine Int.ediv_lt_of_lt_mul (by omega) ?_
  have e : (10 : Int) ^ (f + 1) = 10 ^ f * 10 := Int.pow_succ ..
  have p : (0 : Int) < 10 ^ f := Int.pow_pos (by decide)
  have q : (10 : Int) ^ f * 10 ≤ 10 ^ f * (36 - t) := Int.mul_le_mul_of_nonneg_left (by omega) (by omega)
  omega
theorem rest_lo {N t : Int} (h1 : 1 ≤ t) (h2 : t ≤ 26) : 0 ≤ (N - t).fmod (36 - t) := by
  rw [Int.fmod_eq_emod_of_nonneg _ (by omega)]
  exact Int.emod_nonneg _ (by omega)
theorem rest_hi {N t : Int} (h1 : 1 ≤ t) (h2 : t ≤ 26) : (N - t).fmod (36 - t) < 36 - t := by
  rw [Int.fmod_eq_emod_of_nonneg _ (by omega)]
  exact Int.emod_lt_of_pos _ (by omega)
theorem enc_digit {b : Int} : ∀ (f : Nat) (N j : Int), 0 ≤ N → N < 10 ^ f → ∀ d ∈ enc f N j b, 0 ≤ d ∧ d < 36
  | 0, N, j, h0, h1, d, hd => by
    rw [enc, List.mem_singleton] at hd
    subst hd
    have : (10 : Int) ^ 0 = 1 := rfl
    omega
  | f + 1, N, j, h0, h1, d, hd => by
    have t1 := tq_lo j b
    have t2 := tq_hi j b
    rw [enc] at hd
    split at hd
    · rw [List.mem_singleton] at hd
      subst hd
      omega
    · rename_i hn
      rcases List.mem_cons.mp hd with rfl | hd
      · have r1 := rest_lo (N := N) t1 t2
        have r2 := rest_hi (N := N) t1 t2
        omega
      · exact enc_digit f _ _ (step_lo t1 t2 (by omega)) (step_hi t1 t2 (by omega) h1) d hd
theorem enc_length {b : Int} : ∀ (f : Nat) (N j : Int), (enc f N j b).length ≤ f + 1
  | 0, N, j => by rw [enc]; exact Nat.le_refl _
  | f + 1, N, j => by
    rw [enc]
    split
    · simp
    · rw [List.length_cons]
      have := enc_length (b := b) f ((N - tq j b).fdiv (36 - tq j b)) (j + 1)
      omega
theorem enc_last {f : Nat} {N j b : Int} (h0 : 0 ≤ N) (h1 : N < 10 ^ f) (h : N < tq j b) : enc f N j b = [N] := by
  cases f with
  | zero => rw [enc]
  | succ f => rw [enc, if_pos h]
theorem enc_step {f : Nat} {N j b : Int} (h : ¬ N < tq j b) : enc (f + 1) N j b = (tq j b + (N - tq j b).fmod (36 - tq j b)) :: enc f ((N - tq j b).fdiv (36 - tq j b)) (j + 1) b := by
  rw [enc, if_neg h]

theorem enc_cases {f : Nat} {N j b : Int} (h0 : 0 ≤ N) (h1 : N < 10 ^ f) : ∃ d rest, enc f N j b = d :: rest ∧ 0 ≤ d ∧ d < 36 ∧ ((N < tq j b ∧ d < tq j b ∧ d = N ∧ rest = []) ∨
    (tq j b ≤ d ∧ ∃ f', f = f' + 1 ∧ 0 ≤ (N - tq j b).fdiv (36 - tq j b) ∧ (N - tq j b).fdiv (36 - tq j b) < 10 ^ f' ∧ rest = enc f' ((N - tq j b).fdiv (36 - tq j b)) (j + 1) b ∧
      d + (36 - tq j b) * (N - tq j b).fdiv (36 - tq j b) = N)) := by
  have t1 := tq_lo j b
  have t2 := tq_hi j b
  by_cases h : N < tq j b
  · exact ⟨N, [], enc_last h0 h1 h, h0, by omega, .inl ⟨h, h, rfl, rfl⟩⟩
  · obtain ⟨f', rfl⟩ : ∃ f', f = f' + 1 := by
      cases f with
      | zero =>
        have : (10 : Int) ^ 0 = 1 := rfl
        omega
      | succ f' => exact ⟨f', rfl⟩
    have r1 := rest_lo (N := N) t1 t2
    have r2 := rest_hi (N := N) t1 t2
    have e : (36 - tq j b) * (N - tq j b).fdiv (36 - tq j b) + (N - tq j b).fmod (36 - tq j b) = N - tq j b := Int.mul_fdiv_add_fmod ..
    exact ⟨_, _, enc_step h, by omega, by omega, .inr ⟨by omega, f', rfl, step_lo t1 t2 (by omega), step_hi t1 t2 (by omega) h1, rfl, by omega⟩⟩

/-- the text's table -/
def table36 : List UInt8 := [97, 98, 99, 100, 101, 102, 103, 104, 105, 106, 107, 108, 109, 110, 111, 112, 113, 114, 115, 116, 117, 118, 119, 120, 121, 122, 48, 49, 50, 51, 52, 53, 54, 55, 56, 57]
def low (d : Int) : UInt8 := table36.getD d.toNat 0
/-- the sign of a digit in capitals -/
def up (d : Int) : UInt8 := Builtin.Bytes.toUpper (low d)
theorem up_small : ∀ n : Nat, n < 36 → ((Builtin.Bytes.toUpper (table36.getD n 0)).toNat : Int) = if n < 26 then 65 + (n : Int) else 22 + (n : Int) := by decide +kernel
theorem up_is {d : Int} (h0 : 0 ≤ d) (h1 : d < 36) : ((up d).toNat : Int) = if d < 26 then 65 + d else 22 + d := by
  have h := up_small d.toNat (by omega)
  unfold up low
  rw [h]
  have e : ((d.toNat : Nat) : Int) = d := by omega
  rw [e]
  by_cases hd : d < 26
  · rw [if_pos hd, if_pos (by omega)]
  · rw [if_neg hd, if_neg (by omega)]
theorem low_back (d : Int) : ((low d).toNat : Int).toNat.toUInt8 = low d := by
  rw [Int.toNat_natCast]
  exact UInt8.ofNat_toNat
end Mine
end

section
open PySem PySem.W PyProof.Rows PySem.Calls
set_option maxRecDepth 100000
namespace Mine
set_option maxHeartbeats 8000000 in
/-- T, called -/
theorem T_claim (w : World) (mean : ExcName → Option Value) (mg mb : Str → Option Value) (news : List (Addr × Obj)) (j b : Int) (tj tb : Tok) :
    CbClaim PySem.Challenge.rw_kg0005_01.row.prog w (Mine.hd.heap_39 w.params) Mine.hd.view_39 (looseW Mine.hd.view_39 []) mean mg mb 21 news [] (0 ≤ j ∧ j < 1000)
      [.int j tj, .int b tb] (fun t => .int (tq j b) t) := by
  have hfill : PySem.Challenge.rw_kg0005_01 = PySem.Challenge.rw_kg0005_01 ∧ Mine.hd.heap_39 = Mine.hd.heap_39 := ⟨rfl, rfl⟩
  revert hfill
  k_fill
  intro _
  k_with "tree" => unfold tq
  dsimp only [CbClaim, CbLists, CbRet]
  intros
  rename_i hret
  refine wpAny_call ?_
  k_dflt cell_enter
  k_steps
  all_goals cb_end hret

/-- what stands behind a leaf: the walk does not go on into it -/
def Held (P : Prop) : Prop := P
theorem Held.of {P : Prop} (h : P) : Held P := h
theorem wpC_leaf {α : Type} {M : Model} {A : Around} {t : Sem α} {Q : α → Shared → Prop} {E : Value → Shared → Prop} {s : Shared} (h : wpAny M A t (fun a s' => Held (Q a s')) E s) : wpC M A t Q E s := wpC_any h

/-- a plain def of the written part, entered over clear contexts; its body does not raise -/
theorem call_defC {prog : Program} {w : World} {A : Around} {R : Result → Shared → Prop} {s : Shared} {K : Frag} {name qual : Str} {params : Arguments} {body : List Stmt} {scope : Scope} {dV kV doc pm cdv ct oc : Value} {an od : Option Addr} {osl : Array (Option Value)} {f : Addr} {args : Args} {binds : List (Str × Value)}
    (X : K.In s.heap) (ho : K.lookup f = some ⟨oc, od, .func (fnOf name qual params body scope dV kV doc pm an cdv ct), osl⟩) (hcd : codeIn K cdv qual = true) (hlim : s.heap.NoLimit) (hroom : A.depth < recursionLimit)
    (hbind : BindsTo s (fnOf name qual params body scope dV kV doc pm an cdv ct) args binds) (hloc : ∀ y ∈ binds, scope.names.lookup y.1 = some .local)
    (h : ∀ h₁, Fr s.heap s.heap.objs.size h₁ (fun y => binds.reverse.lookup y) →
      wpC (model prog w) (A.deeper (envOf qual scope s.heap.objs.size f cdv)) (execs body (envOf qual scope s.heap.objs.size f cdv))
        (fun fl s' => R (.ok (.ret (match fl with | .ret v => v | _ => .none))) s') noE { s with heap := h₁, toks := s.toks + binds.length })
    (hco : scope.isCoroutine = false) (hgen : scope.isGenerator = false) (hk : scope.kind = .function) (hcell : ∀ x ∈ scope.names, x.2 ≠ .cell) : codeC (model prog w) A (.call (.ref f) args) R s := by
  refine codeC_call_function (fd := fnOf name qual params body scope dV kV doc pm an cdv ct) hroom (X _ _ ho) rfl hco hgen rfl (codeRec_of X hcd) (hbind _ _ _ _ ?_)
  refine wpAny_newFunctionEnv hcell hloc (fun h₁ hns hsb => ⟨hlim.fresh _ hsb, codeC_func ?_⟩) hk
  exact h h₁ ⟨hns, fun b o e => hsb.extBut b o (Nat.ne_of_lt (Heap.lt_size e)) (Heap.get?_push_of_some _ e), Nat.le_refl _⟩
end Mine
end

open PySem PySem.W PyProof.Rows PySem.Calls PySem.Spec
set_option maxRecDepth 100000
namespace Mine

/-- the frame of generate between its turns -/
abbrev gm (N : Int) (tN : Tok) (j : Int) (tj : Tok) (b : Int) (tb : Tok) (a : Addr) (u : Str → Option Value) : Str → Option Value := fun y =>
  if y = Str.ofString "j" then some (.int j tj) else if y = Str.ofString "N" then some (.int N tN) else if y = Str.ofString "bias" then some (.int b tb) else if y = Str.ofString "result" then some (.ref a) else u y

theorem gm_turn {N N2 : Int} {tN tN2 : Tok} {j j2 : Int} {tj tj2 : Tok} {b : Int} {tb : Tok} {a : Addr} {u : Str → Option Value} {v : Option Value} :
    (fun y => if y = Str.ofString "j" then some (Value.int j2 tj2) else if y = Str.ofString "N" then some (Value.int N2 tN2) else if y = Str.ofString "t" then v else gm N tN j tj b tb a u y) = gm N2 tN2 j2 tj2 b tb a (fun y => if y = Str.ofString "t" then v else u y) := by
  funext y
  unfold gm
  by_cases h1 : y = Str.ofString "j"
  · simp [h1]
  by_cases h2 : y = Str.ofString "N"
  · simp [h2]
  by_cases h3 : y = Str.ofString "t"
  · subst h3
    have e1 : ¬ Str.ofString "t" = Str.ofString "bias" := by decide
    have e2 : ¬ Str.ofString "t" = Str.ofString "result" := by decide
    simp [h1, h2, e1, e2]
  · simp [h1, h2, h3]
theorem gm_start {N : Int} {tN : Tok} {j : Int} {tj : Tok} {b : Int} {tb : Tok} {a : Addr} {g : Str → Option Value} (h1 : g (Str.ofString "N") = some (.int N tN)) (h2 : g (Str.ofString "bias") = some (.int b tb)) :
    (fun y => if y = Str.ofString "j" then some (Value.int j tj) else if y = Str.ofString "result" then some (Value.ref a) else g y) = gm N tN j tj b tb a g := by
  funext y
  unfold gm
  by_cases e1 : y = Str.ofString "j"
  · simp [e1]
  by_cases e2 : y = Str.ofString "N"
  · subst e2
    have q : ¬ Str.ofString "N" = Str.ofString "result" := by decide
    simp [e1, q, h1]
  by_cases e3 : y = Str.ofString "bias"
  · subst e3
    have q : ¬ Str.ofString "bias" = Str.ofString "result" := by decide
    simp [e1, e2, q, h2]
  · simp [e1, e2, e3]
theorem fr_start {h₀ h : Heap} {L : Addr} {N : Int} {tN : Tok} {j : Int} {tj : Tok} {b : Int} {tb : Tok} {a : Addr} {g : Str → Option Value}
    (F : Fr h₀ L h (fun y => if y = Str.ofString "j" then some (Value.int j tj) else if y = Str.ofString "result" then some (Value.ref a) else g y))
    (h1 : g (Str.ofString "N") = some (.int N tN)) (h2 : g (Str.ofString "bias") = some (.int b tb)) : Fr h₀ L h (gm N tN j tj b tb a g) := gm_start h1 h2 ▸ F
abbrev arA (dp un : Nat) (outer : List Env) : Around := { handled := none, depth := dp, frames := some outer, guards := some [], units := un }
theorem T_call (w : World) (mean : ExcName → Option Value) (mg mb : Str → Option Value) {dp un : Nat} {cn : Str} {cs : Scope} {a : Addr} {ccd : Value} {cl : List (Str × Addr)} {outer : List Env} {A₀ : Around} {base h₀ : Heap} {L : Addr} {m : Str → Option Value} {s : Shared} {Q E : Value → Shared → Prop}
    {news : List (Addr × Obj)} {j b : Int} {tj tb : Tok} (B : Below A₀ base outer h₀) (F : Fr h₀ L s.heap m) (X : (Mine.hd.heap_39 w.params).In h₀) (N : News h₀ L s.heap news) (T : Top Mine.hd.view_39 (looseW Mine.hd.view_39 []) mean mg mb h₀) (hk : cs.kind = .function)
    (hj : 0 ≤ j ∧ j < 1000) (hd : dp + 1 < recursionLimit) (hu : un + 8 < cLine) (ret : ∀ (t : Tok) (h' : Heap) (tk' : Nat), Fr h₀ L h' m → News h₀ L h' news → Q (.int (tq j b) t) { s with heap := h', toks := tk' }) :
    wpAny (model PySem.Challenge.rw_kg0005_01.row.prog w) (ktrTop dp un (some []) cn cs L a ccd cl outer) (call (.ref 21) [.int j tj, .int b tb]) Q E s :=
  T_claim w mean mg mb news j b tj tb dp un (some []) cn cs a ccd cl outer A₀ base h₀ L m s Q E B F X N T hk hj hd hu ret
local macro_rules | `(tactic| walk_at "call ref") => `(tactic| (k_here; (with_reducible show wpAny _ _ (call (Value.ref 21) _) _ _ _); k_dflt (refine' T_call _ _ _ _ ?k1 ?k2 ?k3 ?k4 ?k5 ?kk ?kj ?kd ?ku ?_; (case k1 => k_asm); (case k2 => k_asm); (case k3 => k_asm); (case k4 => k_asm); (case k5 => k_asm); (case kk => exact rfl); (case kj => assumption); (case kd => first | omega | (dsimp only [arA]; omega)); (case ku => first | omega | (dsimp only [arA]; omega)); k_whole); intro t9 h9 tk9 F9 N9; (try dsimp only); (try k_sweep); (try k_fold)))
theorem one_turned {h₀ h h' : Heap} {L a : Addr} {m : Str → Option Value} {o o' : Obj} (F : Fr h₀ L h m) (N : News h₀ L h [(a, o)]) (hs : Heap.SameBut a h h') (e : h'.get? a = some o') : Fr h₀ L h' m ∧ News h₀ L h' [(a, o')] := by
  obtain ⟨n1, n2, n3⟩ := N (a, o) (List.Mem.head _)
  refine ⟨⟨F.ns.sameBut hs (Ne.symm n2), fun b ob hb => hs.extBut b ob (fun q => ?_) (F.keep b ob hb), F.above⟩, fun p hp => ?_⟩
  · subst q
    rw [n3] at hb
    cases hb
  · rw [List.mem_singleton.mp hp]
    exact ⟨e, n2, n3⟩
theorem byte_lo (x : UInt8) : (0 : Int) ≤ (x.toNat : Int) := Int.natCast_nonneg _
theorem byte_hi (x : UInt8) : (x.toNat : Int) < 256 := by have := x.toNat_lt; omega
local macro_rules | `(tactic| walk_at "call type:bytes") => `(tactic| (k_here; (with_reducible show wpAny _ _ (call (Value.type _) [Value.ref _]) _ _ _); k_dflt (refine' call_bytes_ba ?k1 ?k2 ?_; (case k1 => exact News.get (by k_asm) (by k_mem)); (case k2 => (rw [Array.size_push, sizeLine_eq]; omega)); k_whole)))
theorem pow10_le {f g : Nat} (h : f ≤ g) : (10 : Int) ^ f ≤ 10 ^ g := by
  obtain ⟨k, rfl⟩ := Nat.le.dest h
  rw [Int.pow_add]
  have p : (0 : Int) < 10 ^ f := Int.pow_pos (by decide)
  have q : (0 : Int) < 10 ^ k := Int.pow_pos (by decide)
  have := Int.mul_le_mul_of_nonneg_left (show (1 : Int) ≤ 10 ^ k by omega) (Int.le_of_lt p)
  omega
theorem push_low {acc : Array UInt8} {d : Int} {l : List UInt8} (h : acc.toList ++ [low d] = l) : acc.push ((((low d).toNat : Nat) : Int).toNat.toUInt8) = l.toArray := by
  rw [low_back, ← h]
  exact Array.ext' (by rw [Array.toList_push])
set_option maxHeartbeats 8000000 in
theorem gen_code (w : World) (mean : ExcName → Option Value) (mg mb : Str → Option Value) {dp un : Nat} {outer : List Env} {base : Heap} {s : Shared} {N b : Int} {tN tb : Tok} {R : Result → Shared → Prop}
    (B : Below (arA dp un outer) base outer s.heap) (X : (Mine.hd.heap_39 w.params).In s.heap) (T : Top Mine.hd.view_39 (looseW Mine.hd.view_39 []) mean mg mb s.heap)
    (hd : dp + 2 < recursionLimit) (hu : un + 20 < cLine) (h0 : 0 ≤ N) (h1 : N < 10 ^ 60)
    (hR : ∀ h' t tk, (∀ b o, s.heap.get? b = some o → h'.get? b = some o) → R (.ok (.ret (.bytes ((enc 60 N 0 b).map low).toArray t))) { s with heap := h', toks := tk }) :
    codeC (model PySem.Challenge.rw_kg0005_01.row.prog w) (arA dp un outer) (.call (.ref 28) ⟨[.int N tN, .int b tb], []⟩) R s := by
  have hfill : PySem.Challenge.rw_kg0005_01 = PySem.Challenge.rw_kg0005_01 ∧ Mine.hd.heap_39 = Mine.hd.heap_39 := ⟨rfl, rfl⟩
  revert hfill
  k_fill
  intro _
  k_dflt (refine' call_defC X ?k6 ?k7 (Top.nolimit T) ?k8 ?k9 ?kB ?_ ?c2 ?c3 ?c4 ?c5; (case k6 => k_is); (case k7 => k_is); (case k8 => (show dp < _; omega)); (case k9 => exact BindsTo.of_eq rfl); (case c5 => decide); (case kB => exact locs rfl); (case c2 => exact rfl); (case c3 => exact rfl); (case c4 => exact rfl); k_whole)
  intro h₁ F
  have N0 : News s.heap s.heap.objs.size h₁ [] := News.nil
  dsimp only
  refine wpC_execs_cons (wpC_Assign_Name (wpC_Call_Name (wpC_leaf ?_)))
  k_steps; refine Held.of ?_; try dsimp only
  (rename Fr _ _ _ _ => F)
  refine wpC_callWith rfl (wpC_evalArgs (wpC_spliced_nil ⟨looks_type, call_bytearray0 rfl fun h2 e1 e2 => ?_⟩))
  dsimp only at e1 e2 ⊢
  have F2 := F.keeps e2
  have N2 : News s.heap s.heap.objs.size h2 [(h₁.objs.size, baObj #[])] := fun p hp => by
    rw [List.mem_singleton.mp hp]
    refine ⟨e1, Nat.ne_of_gt F.ns.lt, ?_⟩
    cases q : s.heap.get? h₁.objs.size with
    | none => rfl
    | some o => exact absurd (Heap.lt_size (F.keep _ _ q)) (Nat.lt_irrefl _)
  clear F N0
  refine wpC_leaf ?_
  k_steps; refine Held.of ?_; try dsimp only
  refine wpC_execs_cons (wpC_leaf ?_)
  k_steps; refine Held.of ?_; try dsimp only
  (rename Fr _ _ _ _ => F)
  (rename News _ _ _ _ => N3)
  generalize h₁.objs.size = a at *
  refine wpC_execs_cons (wpC_While (fun f s' => ∃ h tk N' tN' j tj u acc, s' = { s with heap := h, toks := tk } ∧ Fr s.heap s.heap.objs.size h (gm N' tN' j tj b tb a u) ∧ News s.heap s.heap.objs.size h [(a, baObj acc)] ∧
    0 ≤ N' ∧ N' < 10 ^ f ∧ 0 ≤ j ∧ j + f = 60 ∧ acc.size ≤ 60 ∧ acc.size + f = 60 ∧ acc.toList ++ (enc f N' j b).map low = (enc 60 N 0 b).map low) ?_ 60 ?_)
  · rintro f s' ⟨h, tk, N', tN', j, tj, u, acc, rfl, F4, N4, a1, a2, a3, a4, a5, a6, a7⟩
    clear F N3
    have hj : 0 ≤ j ∧ j < 1000 := by omega
    refine wpC_leaf ?_
    k_steps; refine Held.of ?_; try dsimp only
    refine wpC_execs_cons (wpC_leaf ?_)
    (try k_fold)
    k_steps; refine Held.of ?_; try dsimp only
    refine wpC_execs_cons (wpC_If (wpC_leaf ?_))
    (try k_fold)
    k_steps; refine Held.of ?_; try dsimp only
    (rename Fr _ _ _ _ => F6)
    (rename News _ _ _ _ => N6)
    (rename Nat => tk9)
    by_cases hlt : N' < tq j b
    · rw [if_pos (decide_eq_true hlt)]
      have hN36 : N' < 36 := by have := tq_hi j b; omega
      refine wpC_execs_cons (wpC_Expr (wpC_Call_Attribute (wpC_leaf ?_)))
      k_steps; refine Held.of ?_; try dsimp only
      refine wpC_any (method_append (N6.get (List.Mem.head _)) ?_)
      refine wpC_callWith rfl (wpC_evalArgs (wpC_leaf ?_))
      k_steps; refine Held.of ?_; try dsimp only
      refine ⟨looks_builtin, call_append rfl (N6.get (List.Mem.head _)) (byte_lo _) (byte_hi _) (by rw [sizeLine_eq]; omega) fun h7 e7 k7 => ⟨rfl, ?_⟩⟩
      dsimp only at e7 k7 ⊢
      obtain ⟨F7, N7⟩ := one_turned F6 N6 k7 e7
      clear F6 N6
      refine wpC_execs_cons (wpC_leaf ?_)
      k_steps; refine Held.of ?_; try dsimp only
      (rename Fr _ _ _ _ => F8)
      rw [enc_last a1 a2 hlt] at a7
      have e := push_low (d := N') a7
      have hr := hR h7 (tk9 + 1 + 1) (tk9 + 1 + 1 + 1) F8.keep
      rw [← e] at hr
      exact hr
    · rw [if_neg (by rw [decide_eq_false hlt]; exact Bool.false_ne_true)]
      refine wpC_execs_nil ?_
      try dsimp only
      have t1 := tq_lo j b
      have t2 := tq_hi j b
      have r1 := rest_lo (N := N') t1 t2
      have r2 := rest_hi (N := N') t1 t2
      have i1 : 0 ≤ tq j b + (N' - tq j b).fmod (36 - tq j b) := by omega
      have i2 : tq j b + (N' - tq j b).fmod (36 - tq j b) < 36 := by omega
      have i3 : 36 - tq j b ≠ 0 := by omega
      refine wpC_execs_cons (wpC_Expr (wpC_Call_Attribute (wpC_leaf ?_)))
      k_steps; refine Held.of ?_; try dsimp only
      refine wpC_any (method_append (N6.get (List.Mem.head _)) ?_)
      refine wpC_callWith rfl (wpC_evalArgs (wpC_leaf ?_))
      k_steps; refine Held.of ?_; try dsimp only
      refine ⟨looks_builtin, call_append rfl (N6.get (List.Mem.head _)) (byte_lo _) (byte_hi _) (by rw [sizeLine_eq]; omega) fun h7 e7 k7 => ⟨rfl, ?_⟩⟩
      dsimp only at e7 k7 ⊢
      obtain ⟨F7, N7⟩ := one_turned F6 N6 k7 e7
      clear F6 N6
      have hf60 : f ≤ 60 := by omega
      have hbig : N' < 10 ^ 60 := Int.lt_of_lt_of_le a2 (pow10_le hf60)
      refine wpC_execs_cons (wpC_leaf ?_)
      k_steps; refine Held.of ?_; try dsimp only
      refine wpC_execs_cons (wpC_leaf ?_)
      k_steps; refine Held.of ?_; try dsimp only
      (rename Fr _ _ _ _ => F9)
      (rename News _ _ _ _ => N9)
      obtain ⟨f', rfl⟩ : ∃ f', f = f' + 1 := by
        cases f with
        | zero =>
          have : (10 : Int) ^ 0 = 1 := rfl
          omega
        | succ f' => exact ⟨f', rfl⟩
      rw [enc_step hlt] at a7
      refine wpC_execs_nil ⟨f', Nat.lt_succ_self _, _, _, _, _, _, _, _, _, rfl, gm_turn ▸ F9, N9, step_lo t1 t2 (by omega), step_hi t1 t2 (by omega) a2, by omega, by omega, by rw [Array.size_push]; omega, by rw [Array.size_push]; omega, ?_⟩
      rw [← a7]
      show (acc.push ((((low (tq j b + (N' - tq j b).fmod (36 - tq j b))).toNat : Nat) : Int).toNat.toUInt8)).toList ++ _ = _
      rw [low_back, Array.toList_push, List.map_cons, List.append_assoc, List.singleton_append]
  · exact ⟨_, _, N, tN, 0, _, _, #[], rfl, fr_start F rfl rfl, N3, h0, h1, by omega, by omega, by simp, by simp, by simp⟩

section
variable {prog : Program} {w : World} {A : Around} {E : Value → Shared → Prop} {s : Shared}
theorem any_leaf {α : Type} {M : Model} {t : Sem α} {Q : α → Shared → Prop} (h : wpAny M A t (fun a s' => Held (Q a s')) E s) : wpAny M A t Q E s := h
theorem any_While {test : Expr} {body : List Stmt} {pos : Pos} {env : Env} {Q : Flow → Shared → Prop} (I : Nat → Shared → Prop)
    (turn : ∀ n s, I n s → wpAny (model prog w) A (isTrue test env (eval test env)) (fun b s₂ =>
        if b = true then wpAny (model prog w) A (execs body env) (fun f s₃ => match f with
            | .next | .cont => ∃ m, m < n ∧ I m s₃
            | .brk => Q .next s₃
            | .ret v => Q (.ret v) s₃) noE s₂
        else Q .next s₂) noE s)
    (n : Nat) (h : I n s) : wpAny (model prog w) A (exec (.While test body [] pos) env) Q E s := by
  refine wpAny_While (codeAny_whileLoop I (fun n s hI => wpAny_mono (turn n s hI) (fun b s₂ h₂ => ?_) fun _ _ x => x.elim) n h)
  cases b with
  | false =>
    simp only [Bool.false_eq_true, if_false] at h₂ ⊢
    exact wpAny_execs_nil h₂
  | true =>
    simp only [if_true] at h₂ ⊢
    refine wpAny_mono h₂ (fun f s₃ h₃ => ?_) fun _ _ x => x.elim
    cases f <;> exact h₃

theorem call_defA {R : Result → Shared → Prop} {K : Frag} {name qual : Str} {params : Arguments} {body : List Stmt} {scope : Scope} {dV kV doc pm cdv ct oc : Value} {an od : Option Addr} {osl : Array (Option Value)} {f : Addr} {args : Args} {binds : List (Str × Value)}
    (X : K.In s.heap) (ho : K.lookup f = some ⟨oc, od, .func (fnOf name qual params body scope dV kV doc pm an cdv ct), osl⟩) (hcd : codeIn K cdv qual = true) (hlim : s.heap.NoLimit) (hroom : A.depth < recursionLimit)
    (hbind : BindsTo s (fnOf name qual params body scope dV kV doc pm an cdv ct) args binds) (hloc : ∀ y ∈ binds, scope.names.lookup y.1 = some .local)
    (h : ∀ h₁, Fr s.heap s.heap.objs.size h₁ (fun y => binds.reverse.lookup y) →
      wpAny (model prog w) (A.deeper (envOf qual scope s.heap.objs.size f cdv)) (execs body (envOf qual scope s.heap.objs.size f cdv))
        (fun fl s' => R (.ok (.ret (match fl with | .ret v => v | _ => .none))) s') noE { s with heap := h₁, toks := s.toks + binds.length })
    (hco : scope.isCoroutine = false) (hgen : scope.isGenerator = false) (hk : scope.kind = .function) (hcell : ∀ x ∈ scope.names, x.2 ≠ .cell) : codeAny (model prog w) A (.call (.ref f) args) R s := by
  refine codeAny_call_function (fd := fnOf name qual params body scope dV kV doc pm an cdv ct) hroom (X _ _ ho) rfl hco hgen rfl (codeRec_of X hcd) (hbind _ _ _ _ ?_)
  refine wpAny_newFunctionEnv hcell hloc (fun h₁ hns hsb => ⟨hlim.fresh _ hsb, codeAny_func (wpAny_mono (h h₁ ?_) (fun _ _ x => x) fun _ _ x => x.elim)⟩) hk
  exact ⟨hns, fun b o e => hsb.extBut b o (Nat.ne_of_lt (Heap.lt_size e)) (Heap.get?_push_of_some _ e), Nat.le_refl _⟩
end


local macro_rules | `(tactic| walk_at "subscriptTail") => `(tactic| (k_here; (with_reducible show wpAny _ _ (subscriptTail _ _ (Value.bytes (List.toArray _) _) (Value.int _ _)) _ _ _); k_dflt (refine' bytes_item_K ?f ?a ?b ?e ?_; (case f => omega); (case a => omega); (case b => omega); (case e => assumption); k_whole)))
/-- the frame of decode between its turns -/
abbrev dm (x : List UInt8) (tt : Tok) (p : Int) (tp : Tok) (b : Int) (tb : Tok) (ts : Tok) (r : Int) (tr : Tok) (v : Int) (tv : Tok) (j : Int) (tj : Tok) (u : Str → Option Value) : Str → Option Value := fun y =>
  if y = Str.ofString "j" then some (.int j tj) else if y = Str.ofString "w" then some (.int v tv) else if y = Str.ofString "result" then some (.int r tr) else if y = Str.ofString "extpos" then some (.int p tp)
  else if y = Str.ofString "extended" then some (.bytes x.toArray tt) else if y = Str.ofString "bias" then some (.int b tb) else if y = Str.ofString "errors" then some (.str (Str.ofString "strict") ts) else u y

theorem dm_turn {x : List UInt8} {tt : Tok} {p p2 : Int} {tp tp2 : Tok} {b : Int} {tb ts : Tok} {r r2 : Int} {tr tr2 : Tok} {v v2 : Int} {tv tv2 : Tok} {j j2 : Int} {tj tj2 : Tok} {u : Str → Option Value} {T D C : Option Value} :
    (fun y => if y = Str.ofString "j" then some (Value.int j2 tj2) else if y = Str.ofString "w" then some (Value.int v2 tv2) else if y = Str.ofString "result" then some (Value.int r2 tr2) else if y = Str.ofString "t" then T
      else if y = Str.ofString "digit" then D else if y = Str.ofString "extpos" then some (Value.int p2 tp2) else if y = Str.ofString "char" then C else dm x tt p tp b tb ts r tr v tv j tj u y) =
    dm x tt p2 tp2 b tb ts r2 tr2 v2 tv2 j2 tj2 (fun y => if y = Str.ofString "t" then T else if y = Str.ofString "digit" then D else if y = Str.ofString "char" then C else u y) := by
  funext y
  unfold dm
  by_cases h1 : y = Str.ofString "j"
  · simp [h1]
  by_cases h2 : y = Str.ofString "w"
  · simp [h2]
  by_cases h3 : y = Str.ofString "result"
  · simp [h3]
  by_cases h4 : y = Str.ofString "extpos"
  · subst h4
    have q1 : ¬ Str.ofString "extpos" = Str.ofString "t" := by decide
    have q2 : ¬ Str.ofString "extpos" = Str.ofString "digit" := by decide
    simp [h1, h2, h3, q1, q2]
  by_cases h5 : y = Str.ofString "extended"
  · subst h5
    have q1 : ¬ Str.ofString "extended" = Str.ofString "t" := by decide
    have q2 : ¬ Str.ofString "extended" = Str.ofString "digit" := by decide
    have q3 : ¬ Str.ofString "extended" = Str.ofString "char" := by decide
    simp [h1, h2, h3, h4, q1, q2, q3]
  by_cases h6 : y = Str.ofString "bias"
  · subst h6
    have q1 : ¬ Str.ofString "bias" = Str.ofString "t" := by decide
    have q2 : ¬ Str.ofString "bias" = Str.ofString "digit" := by decide
    have q3 : ¬ Str.ofString "bias" = Str.ofString "char" := by decide
    simp [h1, h2, h3, h4, h5, q1, q2, q3]
  by_cases h7 : y = Str.ofString "errors"
  · subst h7
    have q1 : ¬ Str.ofString "errors" = Str.ofString "t" := by decide
    have q2 : ¬ Str.ofString "errors" = Str.ofString "digit" := by decide
    have q3 : ¬ Str.ofString "errors" = Str.ofString "char" := by decide
    simp [h1, h2, h3, h4, h5, h6, q1, q2, q3]
  · simp [h1, h2, h3, h4, h5, h6, h7]
theorem fr_turn {h₀ h : Heap} {L : Addr} {x : List UInt8} {tt : Tok} {p p2 : Int} {tp tp2 : Tok} {b : Int} {tb ts : Tok} {r r2 : Int} {tr tr2 : Tok} {v v2 : Int} {tv tv2 : Tok} {j j2 : Int} {tj tj2 : Tok} {u : Str → Option Value} {T D C : Option Value}
    (F : Fr h₀ L h (fun y => if y = Str.ofString "j" then some (Value.int j2 tj2) else if y = Str.ofString "w" then some (Value.int v2 tv2) else if y = Str.ofString "result" then some (Value.int r2 tr2) else if y = Str.ofString "t" then T
      else if y = Str.ofString "digit" then D else if y = Str.ofString "extpos" then some (Value.int p2 tp2) else if y = Str.ofString "char" then C else dm x tt p tp b tb ts r tr v tv j tj u y)) :
    Fr h₀ L h (dm x tt p2 tp2 b tb ts r2 tr2 v2 tv2 j2 tj2 (fun y => if y = Str.ofString "t" then T else if y = Str.ofString "digit" then D else if y = Str.ofString "char" then C else u y)) := dm_turn ▸ F
theorem fr_begin {h₀ h : Heap} {L : Addr} {x : List UInt8} {tt : Tok} {p : Int} {tp : Tok} {b : Int} {tb ts : Tok} {r : Int} {tr : Tok} {v : Int} {tv : Tok} {j : Int} {tj : Tok} {g : Str → Option Value}
    (F : Fr h₀ L h (fun y => if y = Str.ofString "j" then some (Value.int j tj) else if y = Str.ofString "w" then some (Value.int v tv) else if y = Str.ofString "result" then some (Value.int r tr) else g y))
    (h1 : g (Str.ofString "extpos") = some (.int p tp)) (h2 : g (Str.ofString "extended") = some (.bytes x.toArray tt)) (h3 : g (Str.ofString "bias") = some (.int b tb)) (h4 : g (Str.ofString "errors") = some (.str (Str.ofString "strict") ts)) :
    Fr h₀ L h (dm x tt p tp b tb ts r tr v tv j tj g) := by
  have e : (fun y => if y = Str.ofString "j" then some (Value.int j tj) else if y = Str.ofString "w" then some (Value.int v tv) else if y = Str.ofString "result" then some (Value.int r tr) else g y) = dm x tt p tp b tb ts r tr v tv j tj g := by
    funext y
    unfold dm
    by_cases q1 : y = Str.ofString "extpos"
    · subst q1; simp [h1]
    by_cases q2 : y = Str.ofString "extended"
    · subst q2; simp [q1, h2]
    by_cases q3 : y = Str.ofString "bias"
    · subst q3; simp [q1, q2, h3]
    by_cases q4 : y = Str.ofString "errors"
    · subst q4; simp [q1, q2, q3, h4]
    · simp [q1, q2, q3, q4]
  exact e ▸ F
theorem turn_sum {r v N M N2 t d c : Int} (h : r + v * M = N) (g : d + (36 - t) * N2 = M) (e : c = d) : r + c * v + v * (36 - t) * N2 = N := by
  rw [e, Int.mul_assoc, Int.mul_comm d v, Int.add_assoc, ← Int.mul_add, g]
  exact h

set_option maxHeartbeats 8000000 in
theorem dec_code (w : World) (mean : ExcName → Option Value) (mg mb : Str → Option Value) {dp un : Nat} {outer : List Env} {base : Heap} {s : Shared} {x post : List UInt8} {N b p : Int} {tt tp tb ts : Tok} {R : Result → Shared → Prop}
    (B : Below (arA dp un outer) base outer s.heap) (X : (Mine.hd.heap_39 w.params).In s.heap) (T : Top Mine.hd.view_39 (looseW Mine.hd.view_39 []) mean mg mb s.heap)
    (hd : dp + 2 < recursionLimit) (hu : un + 20 < cLine) (h0 : 0 ≤ N) (h1 : N < 10 ^ 60) (hx : x.length ≤ 1000000) (hp : 0 ≤ p) (ht : x.drop p.toNat = (enc 60 N 0 b).map up ++ post)
    (hR : ∀ D h' t1 t2 tk, s.heap.get? D = none → h'.get? D = some { cls := .type "tuple", data := .seq #[.int (p + (enc 60 N 0 b).length) t1, .int N t2] } → (∀ b o, s.heap.get? b = some o → h'.get? b = some o) →
      R (.ok (.ret (.ref D))) { s with heap := h', toks := tk }) :
    codeAny (model PySem.Challenge.rw_kg0005_01.row.prog w) (arA dp un outer) (.call (.ref 35) ⟨[.bytes x.toArray tt, .int p tp, .int b tb, .str (Str.ofString "strict") ts], []⟩) R s := by
  have hfill : PySem.Challenge.rw_kg0005_01 = PySem.Challenge.rw_kg0005_01 ∧ Mine.hd.heap_39 = Mine.hd.heap_39 := ⟨rfl, rfl⟩
  revert hfill
  k_fill
  intro _
  k_dflt (refine' call_defA X ?k6 ?k7 (Top.nolimit T) ?k8 ?k9 ?kB ?_ ?c2 ?c3 ?c4 ?c5; (case k6 => k_is); (case k7 => k_is); (case k8 => (show dp < _; omega)); (case k9 => exact BindsTo.of_eq rfl); (case c5 => decide); (case kB => exact locs rfl); (case c2 => exact rfl); (case c3 => exact rfl); (case c4 => exact rfl); k_whole)
  intro h₁ F
  have N0 : News s.heap s.heap.objs.size h₁ [] := News.nil
  dsimp only
  refine wpAny_execs_cons (any_leaf ?_)
  k_steps; refine Held.of ?_; try dsimp only
  refine wpAny_execs_cons (any_leaf ?_)
  k_steps; refine Held.of ?_; try dsimp only
  refine wpAny_execs_cons (any_leaf ?_)
  k_steps; refine Held.of ?_; try dsimp only
  (rename Fr _ _ _ _ => F)
  (rename News _ _ _ _ => N3)
  refine wpAny_execs_cons (any_While (fun f s' => ∃ h tk N' p' tp' r tr v tv j tj u, s' = { s with heap := h, toks := tk } ∧ Fr s.heap s.heap.objs.size h (dm x tt p' tp' b tb ts r tr v tv j tj u) ∧ News s.heap s.heap.objs.size h [] ∧
    0 ≤ N' ∧ N' < 10 ^ f ∧ 0 ≤ j ∧ j + f = 60 ∧ r + v * N' = N ∧ 0 ≤ p' ∧ p' + (enc f N' j b).length = p + (enc 60 N 0 b).length ∧ x.drop p'.toNat = (enc f N' j b).map up ++ post) ?_ 60 ?_)
  · rintro f s' ⟨h, tk, N', p', tp', r, tr, v, tv, j, tj, u, rfl, F4, N4, a1, a2, a3, a4, a5, a6, a7, a8⟩
    clear F N3
    have hj : 0 ≤ j ∧ j < 1000 := by omega
    refine any_leaf ?_
    k_steps; refine Held.of ?_; try dsimp only
    refine ite_pos (by decide) ?_
    have t1 := tq_lo j b
    have t2 := tq_hi j b
    obtain ⟨d, rest, he, hd0, hd1, hway⟩ := enc_cases (j := j) (b := b) a1 a2
    have hx0 : x.drop p'.toNat = up d :: (rest.map up ++ post) := by rw [a8, he]; rfl
    have hlen : p'.toNat < x.length := by
      rcases Nat.lt_or_ge p'.toNat x.length with q | q
      · exact q
      · rw [List.drop_eq_nil_of_le q] at hx0
        cases hx0
    have hget : x.getD p'.toNat 0 = up d := by
      have := congrArg (·.head?) hx0
      rw [List.head?_drop] at this
      rw [List.getD_eq_getElem?_getD, this]
      rfl
    have hdrop : x.drop (p' + 1).toNat = rest.map up ++ post := by
      have e : (p' + 1).toNat = p'.toNat + 1 := by omega
      rw [e, ← List.drop_drop, hx0]
      rfl
    have hlen' : p' < (x.length : Int) := by omega
    obtain ⟨c, hc⟩ : ∃ c : Int, (((x.getD p'.toNat 0).toNat : Nat) : Int) = c := ⟨_, rfl⟩
    have hup := up_is hd0 hd1
    rw [← hget, hc] at hup
    by_cases hd26 : d < 26
    · rw [if_pos hd26] at hup
      have hdc : c - 65 = d := by omega
      have c1 : 65 ≤ c := by omega
      have c2 : c ≤ 90 := by omega
      rcases hway with ⟨g1, g2, g3, g4⟩ | ⟨g1, f', g2, g3, g4, g5, g6⟩
      · have g7 : c - 65 < tq j b := by omega
        refine any_leaf ?_
        k_steps
        (rename Fr _ _ _ _ => F9)
        (rename News _ _ _ _ => N9)
        obtain ⟨n1, _, n3⟩ := N9 _ (List.Mem.head _)
        dsimp only at n1 n3
        have e1 : p' + 1 = p + ((enc 60 N 0 b).length : Int) := by rw [← a7, he, g4]; rfl
        have e2 : r + (c - 65) * v = N := by rw [hdc, g3, Int.mul_comm]; exact a5
        rw [e1, e2] at n1
        exact Held.of (hR _ _ _ _ _ n3 n1 F9.keep)
      · have g7 : ¬ c - 65 < tq j b := by omega
        refine any_leaf ?_
        k_steps
        (rename Fr _ _ _ _ => F9)
        (rename News _ _ _ _ => N9)
        subst g2
        exact Held.of ⟨f', Nat.lt_succ_self _, _, _, _, _, _, _, _, _, _, _, _, _, rfl, fr_turn F9, N9, g3, g4, by omega, by omega, turn_sum a5 g6 hdc, by omega, by rw [← a7, he, g5]; simp only [List.length_cons]; omega, by rw [hdrop, g5]⟩
    · rw [if_neg hd26] at hup
      have hdc : c - 22 = d := by omega
      have c1 : ¬ 65 ≤ c := by omega
      have c2 : 48 ≤ c := by omega
      have c3 : c ≤ 57 := by omega
      rcases hway with ⟨g1, g2, g3, g4⟩ | ⟨g1, f', g2, g3, g4, g5, g6⟩
      · exact absurd g2 (by omega)
      · have g7 : ¬ c - 22 < tq j b := by omega
        refine any_leaf ?_
        k_steps
        (rename Fr _ _ _ _ => F9)
        (rename News _ _ _ _ => N9)
        subst g2
        exact Held.of ⟨f', Nat.lt_succ_self _, _, _, _, _, _, _, _, _, _, _, _, _, rfl, fr_turn F9, N9, g3, g4, by omega, by omega, turn_sum a5 g6 hdc, by omega, by rw [← a7, he, g5]; simp only [List.length_cons]; omega, by rw [hdrop, g5]⟩
  · exact ⟨_, _, N, p, tp, 0, _, 1, _, 0, _, _, rfl, fr_begin F rfl rfl rfl rfl, N3, h0, h1, by omega, by omega, by omega, hp, rfl, ht⟩

theorem const_bytes {M : Model} {A : Around} {E : Value → Shared → Prop} {s : Shared} {env : Env} {b : List UInt8} {k : Nat} {pos : Pos} {Q : Value → Shared → Prop} (h : Q (.bytes b.toArray s.toks) { s with toks := s.toks + 1 }) :
    wpAny M A (eval (.Constant (.bytes b) k pos) env) Q E s := fun _ _ _ => h
/-- decode, called -/
theorem dec_call (w : World) (mean : ExcName → Option Value) (mg mb : Str → Option Value) {dp un : Nat} {cn : Str} {cs : Scope} {a : Addr} {ccd : Value} {cl : List (Str × Addr)} {outer : List Env} {A₀ : Around} {base h₀ : Heap} {L : Addr} {m : Str → Option Value} {s : Shared} {Q E : Value → Shared → Prop}
    {news : List (Addr × Obj)} {x post : List UInt8} {N b p : Int} {tt tp tb ts : Tok} (B : Below A₀ base outer h₀) (F : Fr h₀ L s.heap m) (X : (Mine.hd.heap_39 w.params).In h₀) (Nw : News h₀ L s.heap news) (T : Top Mine.hd.view_39 (looseW Mine.hd.view_39 []) mean mg mb h₀) (hk : cs.kind = .function)
    (hd : dp + 2 < recursionLimit) (hu : un + 20 < cLine) (h0 : 0 ≤ N ∧ N < 10 ^ 60) (hx : x.length ≤ 1000000) (hp : 0 ≤ p) (ht : x.drop p.toNat = (enc 60 N 0 b).map up ++ post)
    (ret : ∀ (D : Addr) (t1 t2 : Tok) (h' : Heap) (tk' : Nat), Fr h₀ L h' m → News h₀ L h' ((D, { cls := .type "tuple", data := .seq #[.int (p + (enc 60 N 0 b).length) t1, .int N t2] }) :: news) → (∀ q ∈ news, q.1 ≠ D) → Q (.ref D) { s with heap := h', toks := tk' }) :
    wpAny (model PySem.Challenge.rw_kg0005_01.row.prog w) (ktrTop dp un (some []) cn cs L a ccd cl outer) (call (.ref 35) [.bytes x.toArray tt, .int p tp, .int b tb, .str (Str.ofString "strict") ts]) Q E s := by
  have B' := pushX (env := envX cn cs L a ccd cl) B F rfl hk
  refine wpAny_call (dec_code w mean mg mb (base := base) ⟨rfl, B'.stays, B'.frames⟩ (X.keeps F.keep) (T.keeps F.keep) hd hu h0.1 h0.2 hx hp ht fun D h' t1 t2 tk hD hD' hk' => ?_)
  refine ret D t1 t2 h' tk (F.keeps hk') (fun q hq => ?_) fun q hq e => ?_
  · rcases List.mem_cons.mp hq with rfl | hq
    · refine ⟨hD', fun e => ?_, ?_⟩
      · obtain ⟨o, _, _, ho, _⟩ := F.ns
        dsimp only at e
        rw [e, ho] at hD
        cases hD
      · cases z : h₀.get? D with
        | none => rfl
        | some o =>
          have := F.keep _ _ z
          rw [hD] at this
          cases this
    · exact ⟨hk' _ _ (Nw q hq).1, (Nw q hq).2⟩
  · have := (Nw q hq).1
    rw [e, hD] at this
    cases this
/-- the glued text in capitals -/
theorem glue_up (b : Int) (ns : List Int) : (glue (ns.map fun n => ((enc 60 n 0 b).map low).toArray)).toList.map Builtin.Bytes.toUpper = ns.flatMap fun n => (enc 60 n 0 b).map up := by
  have key : ∀ (bs : List (Array UInt8)) (acc : Array UInt8), (bs.foldl (· ++ ·) acc).toList = acc.toList ++ (bs.map Array.toList).flatten := by
    intro bs
    induction bs with
    | nil => intro acc; simp
    | cons c bs ih => intro acc; rw [List.foldl_cons, ih]; simp
  unfold glue
  rw [key]
  simp only [List.nil_append, List.map_map, List.map_flatten, List.flatMap]
  congr 1
  refine List.map_congr_left fun n _ => ?_
  simp only [Function.comp, List.map_map]
  rfl
theorem flat_length (b : Int) : ∀ ns : List Int, (ns.flatMap fun n => (enc 60 n 0 b).map up).length ≤ 61 * ns.length
  | [] => by simp
  | n :: r => by
    rw [List.flatMap_cons, List.length_append, List.length_map, List.length_cons]
    have h1 := enc_length (b := b) 60 n 0
    have h2 := flat_length b r
    omega
theorem glue_len (b : Int) (ns : List Int) : (glue (ns.map fun n => ((enc 60 n 0 b).map low).toArray)).size ≤ 61 * ns.length := by
  have h := flat_length b ns
  rw [← glue_up, List.length_map, Array.length_toList] at h
  exact h
theorem flat_drop {b : Int} {ns pre post : List Int} {n : Int} (h : ns = pre ++ n :: post) :
    (ns.flatMap fun n => (enc 60 n 0 b).map up).drop (pre.flatMap fun n => enc 60 n 0 b).length = (enc 60 n 0 b).map up ++ (post.flatMap fun n => (enc 60 n 0 b).map up) := by
  have e : (pre.flatMap fun n => enc 60 n 0 b).length = (pre.flatMap fun n => (enc 60 n 0 b).map up).length := by
    induction pre generalizing ns with
    | nil => rfl
    | cons c r ih => rw [List.flatMap_cons, List.flatMap_cons, List.length_append, List.length_append, List.length_map, ih rfl]
  rw [h, List.flatMap_append, List.flatMap_cons, e, List.drop_left]
theorem flat_same (b : Int) : ∀ ns : List Int, (ns.flatMap fun n => enc 60 n 0 b).length = (ns.flatMap fun n => (enc 60 n 0 b).map up).length
  | [] => rfl
  | n :: r => by rw [List.flatMap_cons, List.flatMap_cons, List.length_append, List.length_append, List.length_map, flat_same b r]
theorem absmod (k : Int) : 0 ≤ (if k < 0 then -k else k).fmod (10 ^ Int.toNat 60) ∧ (if k < 0 then -k else k).fmod (10 ^ Int.toNat 60) < 10 ^ 60 := by
  have e : (10 : Int) ^ Int.toNat 60 = 10 ^ 60 := rfl
  rw [e, Int.fmod_eq_emod_of_nonneg _ (by decide)]
  exact ⟨Int.emod_nonneg _ (by decide), Int.emod_lt_of_pos _ (by decide)⟩

/-- a call of generate by two names of a comprehension: a local one and a cell -/
theorem elt_gen (w : World) (mean : ExcName → Option Value) (mg mb : Str → Option Value) {dp un : Nat} {outer : List Env} {base : Heap} {env : Env} {s : Shared} {f x y : Str} {p1 p2 p3 p4 : Pos} {c : Addr} {mC : Str → Option Value} {N b : Int} {tN tb : Tok} {E : Value → Shared → Prop}
    (B : Below (arA dp un outer) base outer s.heap) (X : (Mine.hd.heap_39 w.params).In s.heap) (T : Top Mine.hd.view_39 (looseW Mine.hd.view_39 []) mean mg mb s.heap)
    (hd : dp + 2 < recursionLimit) (hu : un + 20 < cLine) (h0 : 0 ≤ N ∧ N < 10 ^ 60)
    (hf : mg f = some (.ref 28)) (hkeep : keepIn (Mine.hd.heap_39 w.params) (.ref 28) = true) (hg : env.globals = mainGlobals) (hk : env.scope.kind = .function) (k1 : env.kindOf f = some .globalImplicit) (k2 : env.kindOf x = some .local) (k3 : env.kindOf y = some .cell)
    (hC : s.heap.Ns env.locals mC) (hx : mC x = some (.int N tN)) (hc : env.cells.lookup y = some c) (hy : s.heap.IsCell c (some (.int b tb)))
    (d1 : (f == ("__debug__" : Str)) = false) (d2 : (x == ("__debug__" : Str)) = false) (d3 : (y == ("__debug__" : Str)) = false) :
    wpC (model PySem.Challenge.rw_kg0005_01.row.prog w) (arA dp un outer) (eval (.Call (.Name f p1) [.Name x p2, .Name y p3] [] p4) env)
      (fun r s₄ => (∃ t, r = .bytes ((enc 60 N 0 b).map low).toArray t) ∧ ∃ h' tk, s₄ = { s with heap := h', toks := tk } ∧ ∀ b o, s.heap.get? b = some o → h'.get? b = some o) E s := by
  refine wpC_Call_Name (wpC_any (Name_function_global hk k1 (loadGlobal_global (by rw [hg]; exact T.g) hf ?_) d1))
  refine wpC_callWith rfl (wpC_evalArgs (wpC_spliced_cons (wpC_any (wpAny_Name (wpAny_loadName_local hk k2 hC hx ?_) d2))))
  refine wpC_spliced_cons (wpC_any (wpAny_Name (wpAny_loadName_cell hk k3 hc hy ?_) d3))
  refine wpC_spliced_nil ⟨looks_keep hkeep X, wpC_call ?_⟩
  refine gen_code w mean mg mb B X T hd hu h0.1 h0.2 fun h' t tk hk' => ⟨⟨t, rfl⟩, h', tk, rfl, hk'⟩

local macro_rules | `(tactic| walk_at "call ref") => `(tactic| (k_here; (with_reducible show wpAny _ _ (call (Value.ref 35) _) _ _ _); k_dflt (refine' dec_call _ _ _ _ ?k1 ?k2 ?k3 ?k4 ?k5 ?kk ?kd ?ku ?k0 ?kx ?kp ?kt ?_; (case k1 => k_asm); (case k2 => k_asm); (case k3 => k_asm); (case k4 => k_asm); (case k5 => k_asm); (case kk => exact rfl); (case kd => decide); (case ku => decide); (case k0 => assumption); (case kx => assumption); (case kp => assumption); (case kt => assumption); k_whole); intro D9 t9 u9 h9 tk9 F9 N9 l9; (try dsimp only); (try k_sweep); (try k_fold)))
local macro_rules | `(tactic| walk_at "call builtin:len") => `(tactic| (k_here; (with_reducible show wpAny _ _ (call (Value.builtin "len") [Value.bytes (List.toArray _) _]) _ _ _); k_dflt (refine' len_bytes ?k1 ?_; (case k1 => (rw [List.size_toArray]; omega)); k_whole)))
set_option maxHeartbeats 8000000 in
theorem law_holds : PySem.Challenge.rw_kg0005_01.Holds := by
  refine Mine.hd ?_
  k_fill
  intro w s₀ s₁ mg mb G Y fa o pm cd doc dV kV ho hd hcd hD hmg hg args vals as hpre hlay hrd hwl hlo
  have KX := kIn_of Y
  have X := (Ground.X G).1
  have V := (Ground.X G).2
  try w_nolog (first | (have GL := glob_more (Ground.glob G (by first | k_qdec | decide +kernel) (by first | k_qdec | decide +kernel)) V) | (have GL := glob_more (Ground.glob G (by decide +kernel)) V))
  refine Ground.open G ?_
  intro T B D TE TW
  obtain ⟨_, _, M⟩ := bmod_of_top T
  have he := Dflts.none hD rfl; subst he; have he := Dflts.noKw hD; subst he
  wrow_args hpre hlay hrd hwl hlo
  refine enter_callC ?_
  w_top on
  have K0 := below_caller (Top.heap T)
  refine call_cellsC (by decide) ho (fd_plain hd) (Top.nolimit T) hcd rfl (kinds_of (by kinds_ok)) (by decide) fun h₁ tk₁ cells F N0 X0 => ?_
  cells_open X0
  clear hd
  refine wpC_execs_cons (wpC_any ?_)
  (try k_fold)
  k_steps
  all_goals (
    refine wpC_execs_cons (wpC_any ?_)
    (try k_fold)
    k_steps
    (rename Fr _ _ _ _ => F)
    (rename News _ _ _ _ => N3)
    (rename IntsAre _ _ => hI8)
    (rename Obj.data _ = Data.cell (some (Value.int _ _)) => hcell)
    generalize hns : List.map (fun k' : Int => (if k' < 0 then -k' else k').fmod (10 ^ Int.toNat 60)) _ = ns at hI8
    have hnn : ∀ n ∈ ns, 0 ≤ n ∧ n < 10 ^ 60 := fun n hn => by
      rw [← hns] at hn
      obtain ⟨k, _, rfl⟩ := List.mem_map.mp hn
      exact absmod k
    have hnl : ns.length ≤ 63 := by
      rw [← hns, List.length_map]
      simp only [List.length_drop]
      omega
    refine wpC_execs_cons (wpC_Assign_Name (wpC_Call_Attribute (wpC_Call_Attribute (wpC_any (const_bytes ?_)))))
    refine wpC_any (method_join ?_)
    obtain ⟨b, tb, hcell⟩ : ∃ b tb, Obj.data _ = Data.cell (some (Value.int b tb)) := ⟨_, _, hcell⟩
    have hyl : ys.length = ns.length := IntsAre.length hI8
    have hB0 := below_caller s₁.heap
    refine wpC_callWith rfl (wpC_evalArgs (wpC_spliced_cons ?_))
    refine wpC_ListComp (vs := ys) (fun i y => ∃ t, y = Value.bytes (((enc 60 (ns.getD i 0) 0 b).map low).toArray) t) rfl (by with_unfolding_all rfl) (by decide) rfl (by decide) rfl ?_ ⟨_, N3.get (List.Mem.head _), rfl, _, rfl⟩ (by rw [hyl, sizeLine_eq]; omega) ?_ ?_
    · refine any_leaf ?_
      k_steps
      exact Held.of ⟨rfl, rfl⟩
    · intro C i v s₃ m₃ hC hv hns3 hm3 hk3 hs3
      obtain ⟨h3, tk3, rfl⟩ := hs3
      obtain ⟨n, t, rfl, hn⟩ := IntsAre.at hI8 i v hv
      have F3 := F.keeps hk3
      have e : ns.getD i 0 = n := by rw [List.getD_eq_getElem?_getD, hn]; rfl
      rw [e]
      exact elt_gen w _ mg mb (pushX hB0 F3 rfl rfl) (KX.keeps F3.keep) (T.keeps F3.keep) (by decide) (by decide) (hnn n (List.mem_of_getElem? hn)) (mg_of KX T.g (by k_is)) (by k_is) rfl rfl rfl rfl rfl hns3 hm3 rfl ⟨_, hk3 _ _ (N3.get (List.Mem.tail _ (List.Mem.tail _ (List.Mem.head _)))), hcell⟩ (by decide) (by decide) (by decide)
    intro D2 h5 tk5 zs hD2 hl5 hzl hzF hk5
    have hbs : BytesAre zs (ns.map fun n => ((enc 60 n 0 b).map low).toArray) := by
      refine ⟨by rw [hzl, hyl, List.length_map], fun i c hc => ?_⟩
      rw [List.getElem?_map] at hc
      obtain ⟨n, hn, rfl⟩ := Option.map_eq_some_iff.mp hc
      have hi : i < zs.length := by
        have := (List.getElem?_eq_some_iff.mp hn).1
        omega
      obtain ⟨t, ht⟩ := hzF i zs[i] (List.getElem?_eq_getElem hi)
      refine ⟨t, ?_⟩
      rw [List.getElem?_eq_getElem hi, ht, List.getD_eq_getElem?_getD, hn]
      rfl
    have hgl := glue_len b ns
    refine wpC_spliced_nil ⟨looks_builtin, wpC_any (call_join hl5 hbs (by rw [sizeLine_eq]; omega) fun t6 k6 => ?_)⟩
    refine wpC_any (method_upper ?_)
    refine wpC_callWith rfl (wpC_evalArgs (wpC_spliced_nil ⟨looks_builtin, wpC_any (call_upper (by rw [sizeLine_eq]; omega) ?_)⟩))
    rw [glue_up]
    have F5 := F.keeps hk5
    have N5 : News s₁.heap s₁.heap.objs.size h5 _ := fun q hq => ⟨hk5 _ _ (N3 q hq).1, (N3 q hq).2⟩
    clear F N3
    have hfl := flat_length b ns
    have hfs := flat_same b ns
    generalize hx : (ns.flatMap fun n => (enc 60 n 0 b).map up) = x at *
    refine wpC_leaf ?_
    k_steps
    refine Held.of ?_
    try dsimp only
    refine wpC_any (wpAny_execs_cons (any_leaf ?_))
    k_steps
    refine Held.of ?_
    try dsimp only
    (rename Fr _ _ _ _ => F7)
    (rename News _ _ _ _ => N7)
    refine wpAny_execs_cons (For_invVF F7 rfl rfl (any_leaf ?_) (hE := fun _ _ z => z.elim))
    k_steps
    refine Held.of ?_
    refine kst_listL (σ := Int × Tok) (fun _ => _) (fun c => [(Str.ofString "at", Value.int c.1 c.2)]) (fun _ => True) [Str.ofString "told"] (fun pre c => c.1 = ((pre.flatMap fun n => enc 60 n 0 b).length : Int)) (0, _) rfl (fun _ => List.Mem.head _) hI8 F7 N7 trivial (fun q hq => by rw [List.mem_singleton.mp hq]; rfl) rfl ?_ ?_
    · rintro ⟨p, tp⟩ pre post n t u h tk own hsplit hmem hoff _ hP F8 N8
      change Fr s₁.heap s₁.heap.objs.size h _ at F8
      change News s₁.heap s₁.heap.objs.size h _ at N8
      dsimp only at hP
      have hn := hnn n hmem
      have hxl : x.length ≤ 1000000 := by omega
      have hp0 : 0 ≤ p := by omega
      have ht : x.drop p.toNat = (enc 60 n 0 b).map up ++ (post.flatMap fun n => (enc 60 n 0 b).map up) := by rw [hP, ← hx, Int.toNat_natCast]; exact flat_drop hsplit
      refine any_leaf ?_
      k_steps
      · rename_i hne
        exact absurd rfl hne
      · (rename Fr _ _ _ _ => F9)
        (rename News _ _ _ _ => N9)
        refine Held.of ?_
        refine kst_end (c := (p + ((enc 60 n 0 b).length : Int), _)) F9 N9 ?hn ?ho rfl trivial (fun q hq => by rw [List.mem_singleton.mp hq]; rfl) ?hr ?hp
        case hn => intro q hq; exact List.Mem.tail _ (List.mem_append_left _ hq)
        case ho => intro q hq; exact List.Mem.tail _ (List.mem_append_right _ hq)
        case hp => dsimp only; rw [hP, List.flatMap_append, List.length_append, Int.natCast_add]; simp
        case hr =>
          intro z h1 h2 h3
          have ha : ¬ z = Str.ofString "at" := h2 _ (List.Mem.head _)
          have ht : ¬ z = Str.ofString "told" := fun e => by
            rw [e] at h3
            exact absurd h3 (by decide)
          simp only [kstB, h3, Bool.false_eq_true, if_neg h1, if_neg ha, if_neg ht, if_false]
    · rintro ⟨p, tp⟩ u h tk _ hP F8 N8
      change Fr s₁.heap s₁.heap.objs.size h _ at F8
      change News s₁.heap s₁.heap.objs.size h _ at N8
      dsimp only at hP ⊢
      have hxl : x.length ≤ 1000000 := by omega
      have e : (p == ((x.toArray.size : Nat) : Int)) = true := by rw [hP, hfs, List.size_toArray]; exact beq_self_eq_true _
      refine any_leaf ?_
      k_steps
      dsimp only
      refine Held.of ?_
      rw [e]
      wrow_close)
end Mine

theorem PySem.Challenge.cw_kg0005_01_holds : PySem.Challenge.rw_kg0005_01.Holds := by
  exact Mine.law_holds
