import PyProof.Rows.All
import Wide.All
import OpenK.AllK
import Wide.FinOn
import Lean
import PySem.Challenge.RW_ny0055_01
set_option Elab.async false

section
/- part Head -/
open PySem PySem.W PyProof.Rows
set_option maxRecDepth 100000
set_option maxHeartbeats 8000000
namespace Mine
/-- a stand-in of the head, which says nothing (what holds, holds): it serves to have the top's objects written out, as hd.heap_1, ahead of the walks. The head itself is shown behind them. -/
theorem PySem.W.holds_open {r : OpenRow} [i : Nonempty r.Holds] {q : Program} {loose : List Str} {Xt : Shared → Bool} {XP : (Str → Option Value) → Heap → Prop} {α : Type} {Yf : Shared → α} {Ya : World → α} {YP : World → Heap → Prop} {N : Nat}
    (_ : ∀ w : World, w = w) (_ : ∀ w s, Yf s = Ya w → YP w s.heap) (_ : ∀ w h h', YP w h → (∀ b o, h.get? b = some o → h'.get? b = some o) → YP w h')
    (_ : ∀ s, Xt s = true → XP (s.heap.nsMap mainGlobals) s.heap) (_ : ∀ mg h h', XP mg h → (∀ b o, h.get? b = some o → h'.get? b = some o) → XP mg h')
    (_ : q = q) (_ : loose = loose) (_ : N = N) (_ : ∀ s, Xt s = true → RecFacts r.records s.heap) (_ : 0 = 0) (_ : True) (_ : True) (_ : 0 = 0 ∧ 0 = 0 ∧ 0 = 0 ∧ 0 = 0 ∧ 0 = 0 ∧ True) (_ : True) (_ : True) : r.Holds := i.elim fun h => h
theorem hd [i : Nonempty PySem.Challenge.rw_ny0055_01.row.Holds] : PySem.Challenge.rw_ny0055_01.row.Holds := by
  w_on; k_head; (case hw => trivial)
  trivial
end Mine
end

section
/- part Plain -/
namespace Mine
/-- the threshold of place j under the bias b -/
def tT (j b : Int) : Int := if 36 * (j + 1) - b < 1 then 1 else if 26 < 36 * (j + 1) - b then 26 else 36 * (j + 1) - b
theorem tT_ge (j b : Int) : 1 ≤ tT j b := by unfold tT; split <;> (try split) <;> omega
theorem tT_le (j b : Int) : tT j b ≤ 26 := by unfold tT; split <;> (try split) <;> omega
/-- the digits' worths of N from place j on, first sign first -/
def digs (b : Int) : Nat → Int → Int → List Int
  | 0, _, _ => []
  | f + 1, j, N => if N < tT j b then [N] else (tT j b + (N - tT j b) % (36 - tT j b)) :: digs b f (j + 1) ((N - tT j b) / (36 - tT j b))
/-- the sign of a digit -/
def sgn (d : Int) : Int := if d < 26 then d + 97 else d + 22
def sgnB (d : Int) : UInt8 := (sgn d).toNat.toUInt8
theorem next_lt {j b N : Int} (h : ¬ N < tT j b) (h0 : 0 ≤ N) : 0 ≤ (N - tT j b) / (36 - tT j b) ∧ ((N - tT j b) / (36 - tT j b)).toNat < N.toNat := by
  have h1 := tT_ge j b
  have h2 := tT_le j b
  generalize tT j b = t at *
  have h3 : 0 ≤ (N - t) / (36 - t) := Int.ediv_nonneg (by omega) (by omega)
  have h4 : (N - t) / (36 - t) ≤ N - t := Int.ediv_le_self _ (by omega)
  exact ⟨h3, by omega⟩
theorem digit_lt {j b N : Int} (h : ¬ N < tT j b) : tT j b ≤ tT j b + (N - tT j b) % (36 - tT j b) ∧ tT j b + (N - tT j b) % (36 - tT j b) < 36 := by
  have h1 := tT_ge j b
  have h2 := tT_le j b
  generalize tT j b = t at *
  have h3 := Int.emod_nonneg (N - t) (show 36 - t ≠ 0 by omega)
  have h4 := Int.emod_lt_of_pos (N - t) (show 0 < 36 - t by omega)
  omega
theorem digs_fuel {b : Int} : ∀ {f f' : Nat} {j N : Int}, 0 ≤ N → N.toNat + 1 ≤ f → N.toNat + 1 ≤ f' → digs b f j N = digs b f' j N := by
  intro f
  induction f with
  | zero => intro f' j N h0 h1; omega
  | succ f ih =>
    intro f' j N h0 h1 h2
    cases f' with
    | zero => omega
    | succ f' =>
      unfold digs
      split
      · rfl
      · rename_i hge
        have := next_lt hge h0
        rw [ih (f' := f') this.1 (by omega) (by omega)]
end Mine
end

section
/- part Cx -/
open PySem PySem.W PyProof.Rows PySem.Calls
set_option maxRecDepth 100000
set_option maxHeartbeats 4000000
namespace Mine
abbrev PR : Program := PySem.Challenge.rw_ny0055_01.row.prog
/-- built-ins that may hold a bytearray while they stand on the stack -/
def holders : List String := ["bytearray.__contains__", "bytearray.__mod__", "bytearray.__rmod__", "_struct.pack_into.held", "bytearray.find.held"] ++ Builtin.Bytes.decodersThatHold
def notDec : Code → Bool
  | .builtin id _ => !holders.contains id
  | _ => true
def Clean (Γ : Ctx) : Prop := notDec Γ.code = true ∧ ∀ x ∈ Γ.below, notDec x.1 = true
def wpC {α : Type} (M : Model) (A : Around) (t : Sem α) (Q : α → Shared → Prop) (E : Value → Shared → Prop) (s : Shared) : Prop :=
  ∀ Γ p, Γ.In A → Clean Γ → Sem.wp M Γ t (fun a _ s' => Q a s') (fun e _ s' => E e s') p s
def codeC (M : Model) (A : Around) (c : Code) (R : Result → Shared → Prop) (s : Shared) : Prop :=
  ∀ Γ p, Γ.code = c → Γ.Below A → Clean Γ → wpCode M Γ R p s
section
variable {α β : Type} {M : Model} {A : Around} {E : Value → Shared → Prop} {s : Shared}
theorem wpC_of {t : Sem α} {Q : α → Shared → Prop} (h : wpAny M A t Q E s) : wpC M A t Q E s := fun Γ p hΓ _ => h Γ p hΓ
theorem codeC_of {c : Code} {R : Result → Shared → Prop} (h : codeAny M A c R s) : codeC M A c R s := fun Γ p hc hΓ _ => h Γ p hc hΓ
theorem wpC_mono {t : Sem α} {Q Q' : α → Shared → Prop} {E' : Value → Shared → Prop} (h : wpC M A t Q E s)
    (hQ : ∀ a s, Q a s → Q' a s) (hE : ∀ e s, E e s → E' e s) : wpC M A t Q' E' s :=
  fun Γ p hΓ hc => Sem.wp_mono M Γ t (fun a _ s => hQ a s) (fun e _ s => hE e s) p s (h Γ p hΓ hc)
theorem codeC_mono {c : Code} {R R' : Result → Shared → Prop} (h : codeC M A c R s) (hR : ∀ r s, R r s → R' r s) : codeC M A c R' s :=
  fun Γ p hc hΓ hn => wpCode_mono hR (h Γ p hc hΓ hn)
theorem wpC_bind {m : Sem α} {f : α → Sem β} {Q : β → Shared → Prop} (h : wpC M A m (fun a s' => wpC M A (f a) Q E s') E s) :
    wpC M A (m >>= f) Q E s := fun Γ p hΓ hc => by
  rw [Sem.wp_bind']
  exact Sem.wp_mono M Γ m (fun a p' s' h' => h' Γ p' hΓ hc) (fun _ _ _ h' => h') p s (h Γ p hΓ hc)
theorem wpC_pure {a : α} {Q : α → Shared → Prop} (h : Q a s) : wpC M A (pure a) Q E s := fun _ _ _ _ => h
theorem wpC_onRaise {m : Sem α} {k : Value → Sem Unit} {Q : α → Shared → Prop}
    (h : wpC M A m Q (fun e s' => wpC M A (k e) (fun _ s'' => E e s'') E s') s) : wpC M A (m.onRaise k) Q E s := fun Γ p hΓ hc => by
  rw [Sem.wp_onRaise]
  exact Sem.wp_mono M Γ m (fun _ _ _ h' => h') (fun e p' s' h' => h' Γ p' hΓ hc) p s (h Γ p hΓ hc)
theorem wpC_attempt {m : Sem α} {Q : Except Value α → Shared → Prop} (h : wpC M A m (fun a => Q (.ok a)) (fun e => Q (.error e)) s) :
    wpC M A m.attempt Q E s := fun Γ p hΓ hc => by rw [Sem.wp_attempt]; exact h Γ p hΓ hc
theorem wpC_holding {vs : List Value} {m : Sem α} {Q : α → Shared → Prop} (h : wpC M A m Q E s) : wpC M A (holding vs m) Q E s :=
  fun Γ p hΓ hc => by rw [Sem.wp_holding]; exact h Γ p hΓ hc
theorem wpC_standAt {pos : Pos} {Q : Unit → Shared → Prop} (h : Q () s) : wpC M A (standAt pos) Q E s := fun _ _ _ _ => h
theorem wpC_point {Q : Unit → Shared → Prop} (h : Q () s) : wpC M A point Q E s := fun _ _ _ _ => h
theorem clean_enter {Γ : Ctx} {c : Code} {h : Option Value} {p : Pos} (hc : Clean Γ) (hn : notDec c = true) : Clean (Γ.enter c h p) :=
  ⟨hn, fun x hx => (List.mem_cons.mp hx).elim (fun e => e ▸ hc.1) (hc.2 x)⟩
theorem wpC_run {c : Code} {h : Option Value} {Q : Flow → Shared → Prop} (hn : notDec c = true)
    (hc : codeC M (A.mark h) c (fun r s' => match r with | .ok f => Q f s' | .error e => E e s') s) (hnb : h ≠ some byPass := by intro x; cases x) :
    wpC M A (run c h) Q E s :=
  fun Γ p hΓ hcl => by rw [Sem.wp_run]; exact hc _ p rfl (hΓ.enter c h p hnb) (clean_enter hcl hn)
theorem wpC_runValue {c : Code} {Q : Value → Shared → Prop} (hn : notDec c = true)
    (hc : codeC M A c (fun r s' => match r with | .ok (.ret v) => Q v s' | .ok _ => False | .error e => E e s') s) :
    wpC M A (runValue c) Q E s := fun Γ p hΓ hcl => by rw [Sem.wp_runValue]; exact hc _ p rfl (hΓ.enter c none p (by intro x; cases x)) (clean_enter hcl hn)
theorem wpC_call {f : Value} {pos : List Value} {kw : List (Str × Value)} {Q : Value → Shared → Prop}
    (hc : codeC M A (.call f ⟨pos, kw⟩) (fun r s' => match r with | .ok (.ret v) => Q v s' | .ok _ => False | .error e => E e s') s) :
    wpC M A (call f pos kw) Q E s := wpC_runValue rfl hc
theorem codeC_of_tree {c : Code} {R : Result → Shared → Prop}
    (h : wpC M (A.under c) (M.den c) (fun fin s' => match fin with | .done f => R (.ok f) s' | .again c' => c'.quiet = true ∧ notDec c' = true ∧ codeC M A c' R s')
      (fun e s' => R (.error e) s') s) : codeC M A c R s := fun Γ p hc hΓ hcl => by
  rw [wpCode_iff_wp, hc]
  refine Sem.wp_mono M Γ _ (fun fin p' s' h' => ?_) (fun _ _ _ h' => h') p s (h Γ p (hc ▸ hΓ.in) hcl)
  cases fin with
  | done f => exact h'
  | again c' => exact ⟨h'.1, h'.2.2 (Γ.goto c') p' rfl (hΓ.goto c') ⟨h'.2.1, hcl.2⟩⟩
theorem codeC_loop {c : Code} {R : Result → Shared → Prop} (hq : c.quiet = true) (hn : notDec c = true) (I : Nat → Shared → Prop)
    (turn : ∀ n s, I n s → wpC M (A.under c) (M.den c)
      (fun fin s' => match fin with | .done f => R (.ok f) s' | .again c' => c' = c ∧ ∃ m, m < n ∧ I m s') (fun e s' => R (.error e) s') s)
    (n : Nat) (h : I n s) : codeC M A c R s := by
  induction n using Nat.strongRecOn generalizing s with
  | ind n ih =>
    refine codeC_of_tree (wpC_mono (turn n s h) (fun fin s' hf => ?_) fun _ _ h' => h')
    cases fin with
    | done f => exact hf
    | again c' => obtain ⟨rfl, m, hm, hI⟩ := hf; exact ⟨hq, hn, ih m hm hI⟩
theorem notDec_of {id : String} {as : Args} (h : notDec (.builtin id as) = true) : Builtin.Bytes.decodersThatHold.contains id = false := by
  simp only [notDec, Bool.not_eq_true'] at h
  cases hq : Builtin.Bytes.decodersThatHold.contains id with
  | false => rfl
  | true =>
    have : holders.contains id = true := by
      unfold holders
      rw [List.contains_eq_mem] at hq ⊢
      exact decide_eq_true (List.mem_append_right _ (of_decide_eq_true hq))
    rw [this] at h; cases h
theorem wpC_exported {self : Value} {Q : Bool → Shared → Prop} (h : Q false s) : wpC M A (Builtin.Bytes.exported self) Q E s := fun Γ p hΓ hc => by
  have key : ∀ b, b = false → Q b s := fun b e => e ▸ h
  have hall : ∀ x ∈ (Γ.code, p) :: Γ.below, notDec x.1 = true := fun x hx => (List.mem_cons.mp hx).elim (fun e => e ▸ hc.1) (hc.2 x)
  refine key (((Γ.code, p) :: Γ.below).any _) ?_
  rw [List.any_eq_false]
  intro x hx
  have hb := hall x hx
  obtain ⟨c, p⟩ := x
  split
  all_goals first
    | (rename_i heq; cases heq; exfalso; exact Bool.noConfusion (show false = true from hb))
    | (rename_i heq; cases heq; rw [notDec_of hb]; simp; done)
    | exact Bool.false_ne_true
    | skip
end
end Mine
end

section
/- part Ba1 -/
open PySem PySem.W PyProof.Rows PySem.Calls
set_option maxRecDepth 100000
set_option maxHeartbeats 4000000
namespace Mine
theorem ba_slot_append : Slot "bytearray" "append" "bytearray.append" :=
  .of (owner := "bytearray") (n := "append") (by rw [typeLookup_type, builtinLookup_eq_fast]; kernel_rfl) (by decide +kernel) (by decide +kernel) (by decide +kernel)
    (by first | exact .inl (by decide +kernel) | exact .inr (by decide +kernel)) (by rw [isSubtype_type]; kernel_rfl)
theorem ba_slot_init : Slot "bytearray" "__init__" "bytearray.__init__" :=
  .of (owner := "bytearray") (n := "__init__") (by rw [typeLookup_type, builtinLookup_eq_fast]; kernel_rfl) (by decide +kernel) (by decide +kernel) (by decide +kernel)
    (by first | exact .inl (by decide +kernel) | exact .inr (by decide +kernel)) (by rw [isSubtype_type]; kernel_rfl)
theorem ba_entry_append : entryFor table "bytearray.append" = some Builtin.«bytearray.append» := by first | exact entryFor_of_fast (by kernel_rfl) | exact entryFor_of_tree (by kernel_rfl)
theorem ba_entry_init : entryFor table "bytearray.__init__" = some Builtin.«bytearray.__init__» := by first | exact entryFor_of_fast (by kernel_rfl) | exact entryFor_of_tree (by kernel_rfl)
theorem ba_args_append (a b : Value) : argsOk "bytearray.append" ⟨[a, b], []⟩ := by unfold argsOk; kernel_rfl
theorem ba_args_init (a : Value) : argsOk "bytearray.__init__" ⟨[a], []⟩ := by unfold argsOk; kernel_rfl
theorem ba_mro : mroOf (.type "bytearray") = pure [.type "bytearray", .type "object"] := by rw [mroOf_type]; kernel_rfl
theorem ba_lookup_new : typeLookup (.type "bytearray") "__new__" = pure (some (.builtin "bytearray.__new__")) := by rw [typeLookup_type, builtinLookup_eq_fast]; kernel_rfl
theorem ba_called : TypeCalled "bytearray" "bytearray.__new__" "bytearray.__init__" :=
  ⟨by decide +kernel, by decide +kernel, ⟨_, _, ba_mro⟩, madeBy_type ba_mro ba_lookup_new (by decide +kernel), by decide +kernel, by rw [isSubtype_type]; kernel_rfl, ba_slot_init⟩
theorem ba_typeCall : checkTypeCall "bytearray" ⟨[], []⟩ = pure () := by kernel_rfl
theorem ba_newCall : checkBuiltinCall "bytearray.__new__" ⟨[.type "bytearray"], []⟩ = pure () := by kernel_rfl
theorem ba_entry_new : entryFor table "bytearray.__new__" = some Builtin.«list.__new__» := by
  exact entryFor_alias (id' := "list.__new__") (by kernel_rfl) rfl (by decide +kernel) (by kernel_rfl)
theorem ba_plain_new : plainId "bytearray.__new__" = true := by decide +kernel
set_option maxRecDepth 1000000 in
theorem ba_owner_new : ("bytearray.__new__".splitOn ".__new__").headD "" = "bytearray" := by simp +decide [String.splitOn, String.splitOnAux]
abbrev baObj (bs : Array UInt8) : Obj := { cls := .type "bytearray", data := .bytearray bs }
section
variable {prog : Program} {w : World} {A : Around} {E : Value → Shared → Prop} {s : Shared}
theorem codeC_builtin_call {T : String} {name : Str} {id : String} {b : Builtin} {self : Value} {rest : List Value} {R : Result → Shared → Prop} (h : Slot T name id) (hT : s.TypeIs self T)
    (hb : entryFor table id = some b) (hn : holders.contains id = false)
    (hc : wpC (model prog w) A.in1 (b ⟨self :: rest, []⟩) (fun fin s' => ∃ v, fin = .done (.ret v) ∧ R (.ok (.ret v)) s') (fun e s' => R (.error e) s') s)
    (ha : argsOk id ⟨self :: rest, []⟩) : codeC (model prog w) A (.call (.builtin id) ⟨self :: rest, []⟩) R s := by
  refine codeC_of_tree ?_
  show wpC _ A.in1 (do checkBuiltinCall id ⟨self :: rest, []⟩; again (.builtin id ⟨self :: rest, []⟩)) _ _ s
  refine wpC_bind (wpC_of (h.check _ _ _ _ _ _ _ _ hT ha (show wpC _ _ _ _ _ _ from wpC_pure ⟨plainId_quiet h.plain _, by show (!holders.contains id) = true; rw [hn]; rfl, codeC_of_tree ?_⟩)))
  show wpC _ _ (match entryFor table id with | some b => b ⟨self :: rest, []⟩ | none => unsupported ((withoutEnding? id "#data").getD id)) _ _ s
  rw [hb, Around.under_plainId h.plain _]
  refine wpC_mono hc (fun fin s' h' => ?_) fun _ _ x => x
  obtain ⟨v, rfl, hv⟩ := h'; exact hv
theorem ba_type {b : Addr} {bs : Array UInt8} (ho : s.heap.get? b = some (baObj bs)) : s.TypeIs (.ref b) "bytearray" := by
  exact ⟨_, ho, rfl⟩
theorem ba_sub_self : isSubtype (.type "bytearray") (.type "bytearray") = pure true := by rw [isSubtype_type]; kernel_rfl
theorem ba_code_new {Q₁ : Value → Shared → Prop}
    (h : Q₁ (.ref s.heap.objs.size) { s with heap := s.heap.push (baObj #[]) }) :
    codeAny (model prog w) A (.call (.builtin "bytearray.__new__") ⟨[.type "bytearray"], []⟩) (wants Q₁ E) s := by
  refine codeAny_of_tree ?_
  show wpAny _ A.in1 (do checkBuiltinCall "bytearray.__new__" ⟨[.type "bytearray"], []⟩; again (.builtin "bytearray.__new__" ⟨[.type "bytearray"], []⟩)) _ _ s
  refine wpAny_bind (wpAny_of_eq ba_newCall (wpAny_pure ⟨plainId_quiet ba_plain_new _, codeAny_builtin_stack ba_entry_new rfl fun p st => ?_⟩))
  rw [Around.under_plainId ba_plain_new _]
  have hsub := ba_sub_self
  have hown := ba_owner_new
  obtain ⟨hp, g, d, tk, os⟩ := s
  simp only [hown]
  wp_walk
  exact h
end
end Mine
end

section
/- part Ba2 -/
open PySem PySem.W PyProof.Rows PySem.Calls
set_option maxRecDepth 100000
set_option maxHeartbeats 4000000
namespace Mine
theorem ba_no_release : typeLookup (.type "bytearray") "__release_buffer__" = pure (some (.builtin "bytearray.__release_buffer__")) := by rw [typeLookup_type, builtinLookup_eq_fast]; kernel_rfl
theorem ba_rel_ends : "bytearray.__release_buffer__".endsWith ("." ++ "__release_buffer__") = true := by decide +kernel
theorem ba_rel_drop : "bytearray.__release_buffer__".dropRight ("__release_buffer__".length + 1) = "bytearray" := by decide +kernel
theorem ba_bind0 : Builtin.Bytes.bindOptional "bytearray.__init__" "bytearray" ["source", "encoding", "errors"] [] [] = pure [none, none, none] := by kernel_rfl
section
variable {prog : Program} {w : World} {A : Around} {E : Value → Shared → Prop} {s : Shared}
theorem ba_ownRelease {b : Addr} {bs : Array UInt8} {Q : Bool → Shared → Prop} (ho : s.heap.get? b = some (baObj bs)) (h : Q false s) : wpAny (model prog w) A (Builtin.Bytes.ownRelease (.ref b)) Q E s := by
  unfold Builtin.Bytes.ownRelease Builtin.Bytes.slotIsOwn
  refine wpAny_bind (wpAny_bind (wpAny_specialOf (ba_type ho) ba_no_release ?_))
  simp only [ba_rel_ends, Bool.not_true, Bool.false_eq_true, if_false, ba_rel_drop]
  refine wpAny_isInstance (ba_type ho) ba_sub_self ?_
  exact wpAny_pure h
theorem ba_init {b : Addr} {Q : Fin → Shared → Prop} (ho : s.heap.get? b = some (baObj #[]))
    (h : ∀ h', h'.get? b = some (baObj #[]) → Heap.SameBut b s.heap h' → Q (.done (.ret .none)) { s with heap := h' }) : wpC (model prog w) A (Builtin.«bytearray.__init__» ⟨[.ref b], []⟩) Q E s := by
  unfold Builtin.«bytearray.__init__»
  refine wpC_bind (wpC_of (ba_ownRelease ho ?_))
  simp only [Bool.false_eq_true, if_false, ba_bind0, pure_bind, Builtin.Bytes.checkCodecArg]
  refine wpC_bind ?_
  unfold orM
  refine wpC_bind (wpC_exported ?_)
  simp only [toBool]
  refine wpC_of ?_
  unfold Builtin.Bytes.exportsOf
  refine wpAny_bind (wpAny_bind (wpAny_load ho (wpAny_pure (wpAny_pure ?_))))
  show wpC _ _ _ _ _ _
  refine wpC_of ?_
  simp only [Builtin.Bytes.write, updateBytearray]
  refine wpAny_bind (wpAny_bind (wpAny_load ho ?_))
  refine wpAny_bind (wpAny_update ho ?_)
  refine wpAny_lookBehind (Heap.get?_update_self _ ho rfl) (by decide) ?_
  exact wpAny_bind (wpAny_pure (wpAny_pure (h _ (Heap.get?_update_self _ ho rfl) (Heap.SameBut.update ..))))
def ctTail (T : String) (obj : Value) : Sem PySem.Fin := do
  if !(← isInstance obj (.type T)) then rule "type.call.new-gave-other-type"; return ← ret obj
  match ← holding [obj] (callSpecial? obj "__init__" [] []) with
  | none => ret obj
  | some r =>
    if r != .none then
      rule "type.call.init-returned-value"
      raiseError "TypeError" s!"__init__() should return None, not '{← typeNameOf r}'"
    ret obj
theorem ct_gen {T n i : String} (ft : TypeCalled T n i) (hct : checkTypeCall T ⟨[], []⟩ = pure ()) : Builtin.«type.__call__» ⟨[.type T], []⟩ = (holding [Value.builtin n] (call (Value.builtin n) [Value.type T]) >>= ctTail T) := by
  obtain ⟨c, tl, hmro⟩ := ft.mro
  have hmade := ft.made
  have h1 := ft.notType
  have h2 := ft.canCreate
  unfold Builtin.«type.__call__»
  simp only [h1, h2, hct, hmro, hmade, pure_bind, List.isEmpty_cons, Bool.false_eq_true, if_false]
  rfl
theorem ct_tree : Builtin.«type.__call__» ⟨[.type "bytearray"], []⟩ = (holding [Value.builtin "bytearray.__new__"] (call (Value.builtin "bytearray.__new__") [Value.type "bytearray"]) >>= ctTail "bytearray") := ct_gen ba_called ba_typeCall
theorem codeC_builtin {id : String} {args : Args} {b : Builtin} {R : Result → Shared → Prop} (hb : entryFor table id = some b)
    (h : wpC (model prog w) (A.under (.builtin id args)) (b args) (fun fin s' => match fin with | .done f => R (.ok f) s' | .again c' => c'.quiet = true ∧ notDec c' = true ∧ codeC (model prog w) A c' R s') (fun e s' => R (.error e) s') s) :
    codeC (model prog w) A (.builtin id args) R s := by
  refine codeC_of_tree ?_
  show wpC _ _ (match entryFor table id with | some b => b args | none => unsupported ((withoutEnding? id "#data").getD id)) _ _ s
  rw [hb]; exact h
theorem ba_new {Q : Value → Shared → Prop}
    (h : ∀ b h', s.heap.get? b = none → h'.get? b = some (baObj #[]) → (∀ b' o, s.heap.get? b' = some o → h'.get? b' = some o) → b = s.heap.objs.size → Q (.ref b) { s with heap := h' }) :
    wpC (model prog w) A (call (.type "bytearray") []) Q E s := by
  refine wpC_call (codeC_of_tree ?_)
  show wpC _ _ (callAny (.type "bytearray") _) _ _ _
  refine wpC_pure ⟨Code.quiet_builtin _ (by decide +kernel), by rfl, codeC_builtin F.entry_type_call ?_⟩
  rw [Around.under_plain (weight_type_call_type "bytearray" [] []) rfl]
  rw [ct_tree]
  refine wpC_bind (wpC_holding (wpC_call (codeC_of (codeAny_mono (ba_code_new (E := fun _ _ => False) (Q₁ := fun v s' => v = .ref s.heap.objs.size ∧ s' = { s with heap := s.heap.push (baObj #[]) }) ⟨rfl, rfl⟩) fun r s' hr => ?_))))
  match r, hr with
  | .ok (.ret v), hr =>
    obtain ⟨rfl, rfl⟩ := hr
    have ho : (s.heap.push (baObj #[])).get? s.heap.objs.size = some (baObj #[]) := Heap.get?_push_size _ rfl
    show wpC _ _ (ctTail _ _) _ _ _
    unfold ctTail
    refine wpC_bind (wpC_of (wpAny_isInstance (s := { s with heap := s.heap.push (baObj #[]) }) (ba_type ho) ba_sub_self ?_))
    simp only [Bool.not_true, Bool.false_eq_true, if_false]
    refine wpC_bind (wpC_holding ?_)
    unfold callSpecial?
    refine wpC_bind (wpC_of (wpAny_specialOf (s := { s with heap := s.heap.push (baObj #[]) }) (ba_type ho) ba_slot_init.lookup ?_))
    simp only [ba_slot_init.bind]
    refine wpC_holding (wpC_bind (wpC_pure (wpC_bind (wpC_call (codeC_builtin_call ba_slot_init (ba_type ho) ba_entry_init (by decide +kernel) (ba_init ho fun h' ho' hs => ⟨_, rfl, ?_⟩) (ba_args_init _))))))
    refine wpC_pure ?_
    show wpC _ _ _ _ _ _
    refine wpC_pure ?_
    refine h _ h' (Heap.get?_none_of_le (Nat.le_refl _)) ho' (fun b' o e => ?_) rfl
    exact (hs.2 b' (Nat.ne_of_lt (Heap.lt_size e))).trans (Heap.get?_push_of_some _ e)
end
end Mine
end

section
/- part Ba3 -/
open PySem PySem.W PyProof.Rows PySem.Calls
set_option maxRecDepth 100000
set_option maxHeartbeats 4000000
namespace Mine
theorem ba_no_bytes : typeLookup (.type "bytearray") "__bytes__" = pure none := by rw [typeLookup_type, builtinLookup_eq_fast]; kernel_rfl
theorem ba_no_index : typeLookup (.type "bytearray") "__index__" = pure none := by rw [typeLookup_type, builtinLookup_eq_fast]; kernel_rfl
theorem ba_buffer : typeLookup (.type "bytearray") "__buffer__" = pure (some (.builtin "bytearray.__buffer__")) := by rw [typeLookup_type, builtinLookup_eq_fast]; kernel_rfl
theorem ba_buf_ends : "bytearray.__buffer__".endsWith ("." ++ "__buffer__") = true := by decide +kernel
theorem ba_buf_drop : "bytearray.__buffer__".dropRight ("__buffer__".length + 1) = "bytearray" := by decide +kernel
section
variable {prog : Program} {w : World} {A : Around} {E : Value → Shared → Prop} {s : Shared}
theorem ba_append {b : Addr} {bs : Array UInt8} {c : Int} {t : Tok} {Q : Value → Shared → Prop} (ho : s.heap.get? b = some (baObj bs)) (h0 : 0 ≤ c) (h1 : c < 256) (hz : bs.size < sizeLine)
    (h : ∀ h', h'.get? b = some (baObj (bs.push c.toNat.toUInt8)) → Heap.SameBut b s.heap h' → Q .none { s with heap := h' }) : wpC (model prog w) A (call (.builtin "bytearray.append") [.ref b, .int c t]) Q E s := by
  refine wpC_call (codeC_builtin_call ba_slot_append (ba_type ho) ba_entry_append (by decide +kernel) ?_ (ba_args_append _ _))
  unfold Builtin.«bytearray.append»
  show wpC _ _ (Builtin.Bytes.byteValue (.int c t) >>= _) _ _ _
  unfold Builtin.Bytes.byteValue
  refine wpC_bind (wpC_of ?_)
  show wpAny _ _ (if (decide (c < 0) || decide (c ≥ 256)) = true then _ else _) _ _ _
  rw [if_neg (by simp; omega)]
  refine wpAny_pure ?_
  show wpC _ _ _ _ _ _
  unfold Builtin.Bytes.checkResize
  refine wpC_bind (wpC_bind ?_)
  unfold orM
  refine wpC_bind (wpC_exported ?_)
  simp only [toBool]
  refine wpC_of ?_
  unfold Builtin.Bytes.exportsOf
  refine wpAny_bind (wpAny_bind (wpAny_load ho (wpAny_pure (wpAny_pure ?_))))
  show wpC _ _ _ _ _ _
  refine wpC_of ?_
  refine wpAny_pure ?_
  show wpC _ _ _ _ _ _
  refine wpC_of ?_
  simp only [Builtin.Bytes.write, updateBytearray]
  refine wpAny_bind (wpAny_bind (wpAny_load ho ?_))
  refine wpAny_bind (wpAny_update ho ?_)
  refine wpAny_lookBehind (Heap.get?_update_self _ ho rfl) ?_ ?_
  · show (if (bs.push _).size > sizeLine then some _ else none) = none
    rw [if_neg (by rw [Array.size_push]; omega)]
  exact wpAny_pure ⟨_, rfl, h _ (Heap.get?_update_self _ ho rfl) (Heap.SameBut.update ..)⟩
theorem ba_buffer? {b : Addr} {bs : Array UInt8} {Q : Option (Array UInt8) → Shared → Prop} (ho : s.heap.get? b = some (baObj bs)) (h : Q (some bs) s) : wpAny (model prog w) A (Builtin.Bytes.buffer? "bytes.__new__" (.ref b) true) Q E s := by
  have hT := ba_type ho
  unfold Builtin.Bytes.buffer?
  refine wpAny_bind (wpAny_specialOf hT ba_buffer ?_)
  refine wpAny_bind ?_
  unfold Builtin.Bytes.slotIsOwn
  refine wpAny_bind (wpAny_specialOf hT ba_buffer ?_)
  simp only [ba_buf_ends, Bool.not_true, Bool.false_eq_true, if_false, ba_buf_drop]
  refine wpAny_isInstance hT ba_sub_self ?_
  refine wpAny_bind (wpAny_specialOf hT ba_buffer ?_)
  refine wpAny_bind (ba_ownRelease ho ?_)
  refine wpAny_bind ?_
  unfold Builtin.Bytes.payload Builtin.Bytes.payload?
  refine wpAny_bind (wpAny_bind (wpAny_load ho ?_))
  exact wpAny_pure (wpAny_pure (wpAny_pure h))
theorem ba_bytes_new {b : Addr} {bs : Array UInt8} {Q : Value → Shared → Prop} (ho : s.heap.get? b = some (baObj bs)) (hz : bs.size ≤ sizeLine)
    (hQ : ∀ t, Q (.bytes bs t) { s with toks := s.toks + 1 }) : codeAny (model prog w) A (.call (.builtin "bytes.__new__") ⟨[.type "bytes", .ref b], []⟩) (wants Q E) s := by
  have hT := ba_type ho
  refine codeAny_call_builtin F.bm_plain F.bm_entry (wpAny_of_eq (F.bm_newCall _) ?_)
  unfold Builtin.«bytes.__new__»
  refine wpAny_bind (wpAny_pure ?_)
  refine bm_if_false rfl ?_
  refine wpAny_bind (wpAny_of_eq F.bm_sub ?_)
  refine bm_if_false rfl ?_
  refine wpAny_bind (wpAny_of_eq (F.bm_bind _) ?_)
  refine wpAny_bind (wpAny_pure (wpAny_bind (wpAny_pure ?_)))
  refine bm_if_false rfl ?_
  refine wpAny_bind (wpAny_specialOf hT ba_no_bytes ?_)
  refine wpAny_bind (wpAny_bind ?_)
  show wpAny _ _ (load b >>= _) _ _ _
  refine wpAny_bind (wpAny_load ho ?_)
  refine wpAny_pure (wpAny_pure ?_)
  refine bm_if_false rfl ?_
  refine wpAny_bind (wpAny_specialOf hT ba_no_index ?_)
  refine bm_if_true rfl ?_
  first
    | show wpAny _ _ (Builtin.Bytes.buffer? "bytes.__new__" (.ref b) true >>= _) _ _ _
    | (refine wpAny_bind ?_; show wpAny _ _ (Builtin.Bytes.buffer? "bytes.__new__" (.ref b) true >>= _) _ _ _)
  refine wpAny_bind (ba_buffer? ho ?_)
  refine wpAny_bind (wpAny_rule ?_)
  refine wpAny_bind (wpAny_mkBytes ?_ hz)
  show wpAny _ _ (if (Value.type "bytes" == Value.type "bytes") = true then _ else _) _ _ _
  refine bm_if_true (by decide) ?_
  first
    | exact wpAny_pure (hQ _)
    | exact wpAny_bind (wpAny_pure (wpAny_pure (hQ _)))
    | exact wpAny_bind (wpAny_pure (wpAny_pure (wpAny_pure (hQ _))))
theorem ba_bytes {b : Addr} {bs : Array UInt8} {Q : Value → Shared → Prop} (ho : s.heap.get? b = some (baObj bs)) (hz : bs.size ≤ sizeLine)
    (hQ : ∀ t, Q (.bytes bs t) { s with toks := s.toks + 1 }) : wpAny (model prog w) A (call (.type "bytes") [.ref b]) Q E s := by
  refine callType_codes (Q₁ := fun obj s₁ => s₁.TypeIs obj "bytes" ∧ Q obj s₁) F.bm_called (F.bm_typeCall _) F.entry_object_init
    (ba_bytes_new ho hz fun t => ⟨PySem.W.typeIs_bytes _ _ _, hQ t⟩) fun obj s₁ h₁ => ?_
  exact ⟨h₁.1, F.args_object_init_2 obj _, object_init_meets F.bm_called.init.lookup F.bm_called.made (by decide) prog w A.in1 _ s₁ ⟨h₁.1, rfl, h₁.2⟩⟩
end
end Mine
end

section
/- part Px -/
open PySem PySem.W PyProof.Rows PySem.Calls
set_option maxRecDepth 100000
set_option maxHeartbeats 4000000
namespace Mine
section
variable {M : Model} {A : Around} {E : Value → Shared → Prop} {s : Shared} {env : Env}
theorem wpC_keep {α : Type} {vs : List Value} {m : Sem α} {Q : α → Shared → Prop} (h : wpC M A m Q E s) : wpC M A (m.keep vs) Q E s :=
  fun Γ p hΓ hc => by rw [Sem.wp_keep]; exact h Γ p hΓ hc
theorem execsC {st : Stmt} {rest : List Stmt} {Q : Flow → Shared → Prop}
    (h : wpC M A (exec st env) (fun f s' => match f with | .next => wpC M A (execs rest env) Q E s' | f => Q f s') E s) : wpC M A (execs (st :: rest) env) Q E s := by
  rw [arm_execs_cons]
  refine wpC_bind (wpC_mono h (fun f s' h' => ?_) fun _ _ x => x)
  cases f <;> first | exact h' | exact wpC_pure h'
theorem assignC {x : Str} {p' pos : Pos} {value : Expr} {Q : Flow → Shared → Prop}
    (h : wpC M A (eval value env) (fun v s' => wpAny M A (bindName env x v) (fun _ s'' => Q .next s'') E s') E s)
    (hs : swapsWith value (some (.Name x p')) pos.line env = pure false := by rfl) : wpC M A (exec (.Assign [.Name x p'] value pos) env) Q E s := by
  rw [exec_Assign_Name _ _ _ _ _ hs]
  refine wpC_bind (wpC_standAt (wpC_bind (wpC_mono h (fun v s' h' => ?_) fun _ _ x => x)))
  exact wpC_bind (wpC_standAt (wpC_of (wpAny_bind (wpAny_mono h' (fun _ _ q => wpAny_pure q) fun _ _ x => x))))
theorem exprC {e : Expr} {pos : Pos} {Q : Flow → Shared → Prop}
    (h : wpC M A (eval e env) (fun v s' => v = .none ∧ Q .next s') E s) (hi : interactive env = false := by rfl) (hs : swapsWith e none pos.line env = pure false := by rfl) : wpC M A (exec (.Expr e pos) env) Q E s := by
  rw [exec_Expr _ _ _ hi hs]
  refine wpC_bind (wpC_standAt (wpC_bind (wpC_mono h (fun v s' h' => ?_) fun _ _ x => x)))
  obtain ⟨rfl, hq⟩ := h'
  rw [dropValue_plain (fun a => by intro q; cases q)]
  exact wpC_pure hq
theorem ifC {test : Expr} {body orelse : List Stmt} {pos : Pos} {Q : Flow → Shared → Prop}
    (h : wpAny M A (isTrue test env (eval test env)) (fun b s' => if b = true then wpC M A (execs body env) Q E s' else wpC M A (execs orelse env) Q E s') E s) : wpC M A (exec (.If test body orelse pos) env) Q E s := by
  rw [exec_If]
  refine wpC_bind (wpC_standAt (wpC_bind (wpC_of (wpAny_mono h (fun b s' h' => ?_) fun _ _ x => x))))
  cases b with
  | true => simpa using h'
  | false => simpa using h'
theorem callNameC {func : Expr} {args : List Expr} {pos : Pos} {Q : Value → Shared → Prop}
    (h : wpAny M A (eval func env) (fun f s₁ => wpC M A (callWith pos f [] (backTo pos (starEach args env)) []) Q E s₁) E s)
    (he : eval (.Call func args [] pos) env = (do callWith pos (← eval func env) [] (backTo pos (starEach args env)) (backToKw pos (keywordEach [] env))) := by rfl) :
    wpC M A (eval (.Call func args [] pos) env) Q E s := by
  rw [he]; exact wpC_bind (wpC_of h)
theorem cwBuiltinC {pos : Pos} {id : String} {first : List Value} {args : List (Bool × Sem Value)} {Q : Value → Shared → Prop} (hplain : args.any (·.1) = false)
    (h : wpAny M A (evalArgs (.builtin id) true args []) (fun a s₁ => wpC M A (call (.builtin id) (first ++ a.pos) a.kw) Q E s₁) E s) :
    wpC M A (callWith pos (.builtin id) first args []) Q E s := by
  unfold callWith
  refine wpC_bind (wpC_holding (wpC_of (wpAny_mono h (fun a s₁ h₁ => wpC_bind (wpC_standAt ?_)) fun _ _ x => x)))
  simp only [hplain, List.any_nil, Bool.or_false]
  refine wpC_bind (wpC_pure ?_)
  exact wpC_bind (wpC_mono h₁ (fun r s₂ hr => wpC_bind (wpC_holding (wpC_point (wpC_pure hr)))) fun _ _ x => x)
theorem cwTypeC {pos : Pos} {T : String} {first : List Value} {args : List (Bool × Sem Value)} {Q : Value → Shared → Prop} (hplain : args.any (·.1) = false)
    (h : wpAny M A (evalArgs (.type T) true args []) (fun a s₁ => wpC M A (call (.type T) (first ++ a.pos) a.kw) Q E s₁) E s) :
    wpC M A (callWith pos (.type T) first args []) Q E s := by
  unfold callWith
  refine wpC_bind (wpC_holding (wpC_of (wpAny_mono h (fun a s₁ h₁ => wpC_bind (wpC_standAt ?_)) fun _ _ x => x)))
  simp only [hplain, List.any_nil, Bool.or_false]
  refine wpC_bind (wpC_pure ?_)
  exact wpC_bind (wpC_mono h₁ (fun r s₂ hr => wpC_bind (wpC_holding (wpC_point (wpC_pure hr)))) fun _ _ x => x)
theorem cwFunC {pos : Pos} {a : Addr} {o : Obj} {fd : FuncData} {first : List Value} {args : List (Bool × Sem Value)} {Q : Value → Shared → Prop} (hplain : args.any (·.1) = false)
    (h : wpAny M A (evalArgs (.ref a) true args []) (fun x s₁ => (s₁.heap.get? a = some o ∧ o.data = .func fd) ∧ wpC M A (call (.ref a) (first ++ x.pos) x.kw) Q E s₁) E s) :
    wpC M A (callWith pos (.ref a) first args []) Q E s := by
  unfold callWith
  refine wpC_bind (wpC_holding (wpC_of (wpAny_mono h (fun x s₁ h₁ => wpC_bind (wpC_standAt ?_)) fun _ _ x => x)))
  have tail : ∀ {t : Sem Value}, wpC M A t Q E s₁ → wpC M A (t >>= fun r => holding [r] point >>= fun _ => pure r) Q E s₁ :=
    fun ht => wpC_bind (wpC_mono ht (fun r s₂ hr => wpC_bind (wpC_holding (wpC_point (wpC_pure hr)))) fun _ _ x => x)
  simp only [hplain, List.any_nil, Bool.or_false]
  refine wpC_bind (wpC_of ?_)
  unfold keeperOf
  refine wpAny_bind (wpAny_load h₁.1.1 ?_)
  rw [h₁.1.2]
  refine wpAny_pure ?_
  dsimp only
  split
  · exact tail h₁.2
  · exact tail (wpC_keep h₁.2)
theorem cwBuiltin1C {pos : Pos} {id : String} {first : List Value} {e : Expr} {rest : List Expr} {Q : Value → Shared → Prop}
    (h : wpAny M A (spliced (backTo pos (starEach (e :: rest) env))) (fun vs s₁ => wpC M A (call (.builtin id) (first ++ vs)) Q E s₁) E s)
    (he : starEach (e :: rest) env = (false, eval e env) :: starEach rest env := by rfl)
    (hplain : (backTo pos (starEach rest env)).any (·.1) = false := by rfl) :
    wpC M A (callWith pos (.builtin id) first (backTo pos (starEach (e :: rest) env)) []) Q E s := by
  rw [he] at h ⊢
  exact cwBuiltinC (by show (false || (backTo pos (starEach rest env)).any (·.1)) = false; rw [hplain]; rfl) (Calls.evalArgs_plain h)
theorem cwFun1C {pos : Pos} {f : Addr} {o : Obj} {fd : FuncData} {e : Expr} {rest : List Expr} {Q : Value → Shared → Prop} (hdat : o.data = .func fd)
    (h : wpAny M A (spliced (backTo pos (starEach (e :: rest) env))) (fun vs s₁ => s₁.heap.get? f = some o ∧ wpC M A (call (.ref f) vs) Q E s₁) E s)
    (he : starEach (e :: rest) env = (false, eval e env) :: starEach rest env := by rfl)
    (hplain : (backTo pos (starEach rest env)).any (·.1) = false := by rfl) :
    wpC M A (callWith pos (.ref f) [] (backTo pos (starEach (e :: rest) env)) []) Q E s := by
  rw [he] at h ⊢
  exact cwFunC (o := o) (fd := fd) (by show (false || (backTo pos (starEach rest env)).any (·.1)) = false; rw [hplain]; rfl) (Calls.evalArgs_plain (wpAny_mono h (fun vs s₁ h₁ => ⟨⟨h₁.1, hdat⟩, h₁.2⟩) fun _ _ x => x))
theorem methC {o : Expr} {name : Str} {apos pos : Pos} {args : List Expr} {Q : Value → Shared → Prop}
    (h : wpAny M A (eval o env) (fun ov s₁ => wpAny M A (calleeOf true o env ov name) (fun fx s₂ => wpC M A (callWith pos fx.1 fx.2 (backTo pos (starEach args env)) []) Q E s₂) E s₁) E s)
    (hb : ∀ w, attributeBase o name env w = w := by intro _; rfl) (hf : methodCallForm (args.length + 0) (backTo pos (starEach args env)) [] = true := by rfl) (hp : (apos.endLine == pos.line) = true := by rfl) :
    wpC M A (eval (.Call (.Attribute o name apos) args [] pos) env) Q E s := by
  rw [arm_eval_Call, hb]
  refine wpC_bind (wpC_of (wpAny_mono h (fun ov s₁ h₁ => wpC_bind (wpC_standAt ?_)) fun _ _ x => x))
  show wpC M A (methodCall o name apos pos env ov (args.length + 0) (backTo pos (starEach args env)) []) Q E s₁
  unfold methodCall
  rw [hf]
  refine wpC_bind (wpC_holding (wpC_of (wpAny_mono h₁ (fun fx s₂ h₂ => ?_) fun _ _ x => x)))
  obtain ⟨f, first⟩ := fx
  have e : methodCallPos true o env apos pos = pure pos := by unfold methodCallPos; rw [hp]; rfl
  show wpC M A (methodCallPos true o env apos pos >>= fun cp => callWith cp f first (backTo pos (starEach args env)) []) Q E s₂
  rw [e]
  exact wpC_bind (wpC_pure h₂)
end
section
variable {prog : Program} {w : World} {A : Around} {E : Value → Shared → Prop} {s : Shared} {env : Env} {R : Result → Shared → Prop}
theorem codeC_func {body : List Stmt}
    (h : wpC (model prog w) (A.deeper env) (execs body env) (fun f s' => R (.ok (.ret (match f with | .ret v => v | _ => .none))) s') (fun _ _ => False) s) :
    codeC (model prog w) A (.func body env) R s := by
  refine codeC_of_tree ?_
  show wpC _ (A.deeper env) (do point; match ← (execs body env).onRaise (leaving env) with | .ret v => ret v | _ => ret .none) _ _ s
  refine wpC_bind (wpC_point (wpC_bind (wpC_onRaise (wpC_mono h (fun f s' h' => ?_) fun _ _ h' => h'.elim))))
  cases f <;> exact wpC_pure h'
theorem callC_plain {name : Str} {params : Arguments} {body : List Stmt} {scope : Scope} {pm cd doc : Value} {a : Addr} {o : Obj} {args : List Value} {binds : List (Str × Value)}
    (hroom : A.depth < recursionLimit) (ho : s.heap.get? a = some o) (hdata : o.data = .func (Calls.docDef name params body scope pm cd doc)) (hlim : s.heap.NoLimit) (hcd : s.heap.CodeRec cd name)
    (hbind : bindArgs (Calls.docDef name params body scope pm cd doc) ⟨args, []⟩ = pure binds)
    (hloc : ∀ x ∈ binds, scope.names.lookup x.1 = some .local)
    (h : ∀ h₁, Fr s.heap s.heap.objs.size h₁ (fun x => binds.reverse.lookup x) →
      wpC (model prog w) (A.deeper (envOf name scope s.heap.objs.size a cd)) (execs body (envOf name scope s.heap.objs.size a cd))
        (fun f s' => R (.ok (.ret (match f with | .ret v => v | _ => .none))) s') (fun _ _ => False)
        { s with heap := h₁, toks := s.toks + binds.length })
    (hco : scope.isCoroutine = false := by rfl) (hgen : scope.isGenerator = false := by rfl) (hk : scope.kind = .function := by rfl)
    (hcell : ∀ x ∈ scope.names, x.2 ≠ .cell := by decide) :
    codeC (model prog w) A (.call (.ref a) ⟨args, []⟩) R s := by
  refine codeC_of_tree ?_
  show wpC _ A.in1 (callAny (.ref a) _) _ _ s
  simp only [callAny]
  refine wpC_bind (wpC_of (wpAny_load ho ?_))
  obtain ⟨c, oc, vs, tq, hc, hoc, hdc, hq⟩ := hcd
  simp only [hdata, callFunction, hco, hgen, hc]
  show wpC _ _ _ _ _ _
  refine wpC_bind (m := field (.ref c) 1) (wpC_of (wpAny_field hoc hdc hq ?_))
  show wpC _ _ _ _ _ _
  refine wpC_bind (wpC_pure ?_)
  subst hc
  rw [hbind]
  refine wpC_bind (wpC_pure ?_)
  refine wpC_bind (wpC_of (wpAny_newFunctionEnv hcell hloc (fun h₁ hns hsb => ?_) hk))
  refine wpC_bind (wpC_of (wpAny_enterFrame (hlim.fresh _ hsb) hroom ?_))
  show wpC _ _ (match scope.isGenerator, scope.isCoroutine with
    | false, false => again (.func body (envOf name scope s.heap.objs.size a (.ref c)))
    | true, false => _
    | false, true => _
    | true, true => _) _ _ _
  rw [hgen, hco]
  refine wpC_pure ⟨rfl, rfl, codeC_func ?_⟩
  exact h h₁ ⟨hns, fun b o e => hsb.extBut b o (Nat.ne_of_lt (Heap.lt_size e)) (Heap.get?_push_of_some _ e), Nat.le_refl _⟩
def Less (I : Nat → Shared → Prop) (n : Nat) (s : Shared) : Prop := ∃ m, m < n ∧ I m s
theorem whileC {test : Expr} {body : List Stmt} {pos : Pos} {Q : Flow → Shared → Prop} (I : Nat → Shared → Prop)
    (turn : ∀ n s, I n s →
      wpAny (model prog w) A (isTrue test env (eval test env)) (fun b s₂ =>
        if b = true then wpC (model prog w) A (execs body env) (fun f s₃ => match f with
            | .next | .cont => Less I n s₃
            | .brk => Q .next s₃
            | .ret v => Q (.ret v) s₃) (fun _ _ => False) s₂
        else Q .next s₂) (fun _ _ => False) s)
    (n : Nat) (h : I n s) : wpC (model prog w) A (exec (.While test body [] pos) env) Q (fun _ _ => False) s := by
  rw [exec_While]
  refine wpC_bind (wpC_standAt ?_)
  unfold runOwn
  refine wpC_onRaise (wpC_run rfl (codeC_mono (R := fun r s' => match r with | .ok f => Q f s' | .error e => False) (codeC_loop rfl rfl I (fun n s hI => ?_) n h) fun r s' hr => ?_))
  · show wpC _ A ((whileTurn test body [] env).onRaise (fun x => do noteFrame x env; theTreesLotGoes x)) _ _ s
    refine wpC_onRaise (wpC_mono (E := fun _ _ => False) ?_ (fun _ _ q => q) fun _ _ q => q.elim)
    simp only [whileTurn]
    refine wpC_bind (wpC_of (wpAny_mono (turn n s hI) (fun b s₂ h₂ => ?_) fun _ _ h' => h'))
    cases b with
    | false =>
      simp only [Bool.false_eq_true, if_false] at h₂ ⊢
      exact wpC_of (wpAny_bind (wpAny_execs_nil (wpAny_pure h₂)))
    | true =>
      simp only [if_true] at h₂ ⊢
      refine wpC_bind (wpC_mono h₂ (fun f s₃ h₃ => ?_) fun _ _ h' => h')
      cases f with
      | next => exact wpC_pure ⟨rfl, h₃⟩
      | cont => exact wpC_pure ⟨rfl, h₃⟩
      | brk => exact wpC_pure h₃
      | ret v => exact wpC_pure h₃
  · cases r with
    | ok f => exact hr
    | error e => exact hr.elim
end
end Mine
end

section
/- part Gen -/
open PySem PySem.W PyProof.Rows PySem.Calls
set_option maxRecDepth 100000
set_option maxHeartbeats 8000000
namespace Mine
theorem frOn {h₀ h h' : Heap} {L : Addr} {m : Str → Option Value} (F : Fr h₀ L h m) (k : ∀ b o, h.get? b = some o → h'.get? b = some o) : Fr h₀ L h' m :=
  ⟨F.ns.keeps k, fun b o e => k b o (F.keep b o e), F.above⟩
theorem newsOn {h₀ h h' : Heap} {L : Addr} {news : List (Addr × Obj)} (N : News h₀ L h news) (k : ∀ b o, h.get? b = some o → h'.get? b = some o) : News h₀ L h' news :=
  fun p hp => ⟨k _ _ (N p hp).1, (N p hp).2⟩
theorem T_code {w : World} {A : Around} {s : Shared} {R : Result → Shared → Prop} {p : Program} {loose : List Str} {mean : ExcName → Option Value} {mg mb : Str → Option Value} {j b : Int} {tj tb : Tok}
   (X : (hd.heap_1 w.params).In s.heap) (T : Top p loose mean mg mb s.heap) (hroom : A.depth < recursionLimit)
   (h : ∀ h' tk t, (∀ b o, s.heap.get? b = some o → h'.get? b = some o) → R (.ok (.ret (.int (tT j b) t))) { s with heap := h', toks := tk }) :
   codeAny (model PR w) A (.call (.ref 21) ⟨[.int j tj, .int b tb], []⟩) R s := by
  refine call_plain_ret (name := "T") hroom (X 21 _ rfl) rfl T.nolimit (codeRec_of X (by rfl)) (binds := [("j", .int j tj), ("bias", .int b tb)]) (by with_unfolding_all rfl) (locs (by rfl)) (fun h₁ F => ?_)
  have N : News s.heap s.heap.objs.size h₁ [] := News.nil
  have ht : ∀ x : Int, (36 * (j + 1) - b < 1 → x = 1) → (¬ 36 * (j + 1) - b < 1 → 26 < 36 * (j + 1) - b → x = 26) → (¬ 36 * (j + 1) - b < 1 → ¬ 26 < 36 * (j + 1) - b → x = 36 * (j + 1) - b) → x = tT j b := by
    intro x h1 h2 h3; unfold tT; split
    · exact h1 ‹_›
    · split
      · exact h2 ‹_› ‹_›
      · exact h3 ‹_› ‹_›
  w_on
  repeat' (first | walk1 | (dsimp only; walk1))
  all_goals (try dsimp only)
  all_goals (rename Fr _ _ _ _ => F')
  all_goals (first
    | (rw [ht 1 (by intros; rfl) (by intros; omega) (by intros; omega)]; exact h _ _ _ F'.keep)
    | (rw [ht 26 (by intros; omega) (by intros; rfl) (by intros; omega)]; exact h _ _ _ F'.keep)
    | (rw [ht (36 * (j + 1) - b) (by intros; omega) (by intros; omega) (by intros; rfl)]; exact h _ _ _ F'.keep)
    | skip)
end Mine
end

section
/- part Gen2 -/
open PySem PySem.W PyProof.Rows PySem.Calls
set_option maxRecDepth 100000
set_option maxHeartbeats 8000000
namespace Mine
theorem ba_ga : typeLookup (.type "bytearray") "__getattribute__" = pure (some (.builtin "bytearray.__getattribute__")) := by rw [typeLookup_type, builtinLookup_eq_fast]; kernel_rfl
theorem ba_ga_none : typeLookup (.type "bytearray") "__getattr__" = pure none := by rw [typeLookup_type, builtinLookup_eq_fast]; kernel_rfl
theorem ba_canon : (Manifest.canonical "bytearray.__getattribute__" != "object.__getattribute__") = false := by decide +kernel
theorem ba_type_append : typeOf (.builtin "bytearray.append") = pure (.type "method_descriptor") := by show builtinType _ = _; rw [builtinType_eq_fast]; kernel_rfl
theorem ba_getMethod {M : Model} {A : Around} {E : Value → Shared → Prop} {s : Shared} {b : Addr} {bs : Array UInt8} {pl : Sem Bool} {Q : Value × List Value → Shared → Prop} (ho : s.heap.get? b = some (baObj bs))
    (h : Q (.builtin "bytearray.append", [.ref b]) s) : wpAny M A (getMethod (.ref b) "append" pl) Q E s := by
  have hT := ba_type ho
  unfold getMethod
  refine wpAny_bind (wpAny_specialOf hT ba_ga ?_)
  show wpAny M A (if (Manifest.canonical "bytearray.__getattribute__" != "object.__getattribute__") = true then _ else _) Q E s
  rw [ba_canon, if_neg Bool.false_ne_true]
  refine wpAny_bind (wpAny_specialOf hT ba_ga_none ?_)
  refine wpAny_bind (wpAny_specialOf hT ba_slot_append.lookup ?_)
  refine wpAny_bind (wpAny_of_eq ba_type_append ?_)
  refine wpAny_bind (wpAny_load ho ?_)
  exact wpAny_bind (wpAny_rule (wpAny_pure h))
/-- the table of signs -/
def digTab : Array UInt8 := #[97, 98, 99, 100, 101, 102, 103, 104, 105, 106, 107, 108, 109, 110, 111, 112, 113, 114, 115, 116, 117, 118, 119, 120, 121, 122, 48, 49, 50, 51, 52, 53, 54, 55, 56, 57]
theorem digTab_sgn : ∀ k : Nat, k < 36 → (((digTab.toList.getD k 0).toNat : Nat) : Int) = sgn k := by decide
theorem dig_item {prog : Program} {w : World} {A : Around} {E : Value → Shared → Prop} {s : Shared} {value slice : PySem.Expr} {i : Int} {t u : Tok} {Q : Value → Shared → Prop} (h0 : 0 ≤ i) (h1 : i < 36)
    (h : Q (.int (sgn i) s.toks) { s with toks := s.toks + 1 })
    (hs : subscripted slice false (.bytes digTab t) (.int i u) = operate [.bytes digTab t, .int i u] (getItem (.bytes digTab t) (.int i u)) := by with_unfolding_all rfl) :
    wpAny (model prog w) A (subscriptTail value slice (.bytes digTab t) (.int i u)) Q E s := by
  refine tail_any (typeIs_bytes s _ t) FB.slot_bytes_getitem.lookup (getItem_bytes (l := digTab.toList) (by decide) h0 (by show i < 36; exact h1) ?_) hs
  have := digTab_sgn i.toNat (by omega)
  rw [this, show ((i.toNat : Nat) : Int) = i by omega]
  exact h
def numB (b N : Int) : Array UInt8 := ((digs b (N.toNat + 1) 0 N).map sgnB).toArray
theorem T_walk {w : World} {A : Around} {s : Shared} {E : Value → Shared → Prop} {Q : Value → Shared → Prop} {p : Program} {loose : List Str} {mean : ExcName → Option Value} {mg mb m : Str → Option Value} {j b : Int} {tj tb : Tok} {h₀ : Heap} {L : Addr} {news : List (Addr × Obj)}
   (F : Fr h₀ L s.heap m) (N : News h₀ L s.heap news) (X : (hd.heap_1 w.params).In h₀) (T : Top p loose mean mg mb h₀) (hroom : A.depth < recursionLimit)
   (h : ∀ h' tk t, Fr h₀ L h' m → News h₀ L h' news → Q (.int (tT j b) t) { s with heap := h', toks := tk }) :
   wpAny (model PR w) A (call (.ref 21) [.int j tj, .int b tb]) Q E s :=
  wpAny_call (T_code (fun a o e => F.keep a o (X a o e)) (T.keeps F.keep) hroom fun h' tk t k => h h' tk t (frOn F k) (newsOn N k))
local macro_rules | `(tactic| walk_at "call ref") => `(tactic| (with_reducible refine T_walk (by assumption) (by assumption) (by assumption) (by assumption) ?_ ?_; (show _ < recursionLimit; (first | assumption | (simp only [Around.deeper]; omega))); intro h' tk' t' F' N'))
local macro_rules | `(tactic| walk_at "eval Name") => `(tactic| (refine nameX_B (by assumption) (by assumption) (topRead_of (by assumption)) (by rfl) PyProof.Rows.Boot.bytes (by decide) ?_))
local macro_rules | `(tactic| walk_at "eval Name") => `(tactic| (refine nameX_K (by assumption) (by assumption) (topRead_of (by assumption)) (by rfl) ?_))
local macro_rules | `(tactic| walk_at "eval Name") => `(tactic| (refine nameX_L (by assumption) (by first | assumption | (dsimp only; first | assumption | exact if_pos rfl | (refine (if_neg (by decide)).trans ?_; first | assumption | exact if_pos rfl | (refine (if_neg (by decide)).trans ?_; first | assumption | exact if_pos rfl | (refine (if_neg (by decide)).trans ?_; first | assumption | exact if_pos rfl))))) ?_))
theorem ba_on {g h h' : Heap} {L ba : Addr} {m : Str → Option Value} {o o' : Obj} (F : Fr g L h m) (N : News g L h [(ba, o)]) (hs : Heap.SameBut ba h h') (hb : h'.get? ba = some o') : Fr g L h' m ∧ News g L h' [(ba, o')] := by
  have n := N (ba, o) (.head _)
  refine ⟨ksk_fr F hs n.2.1 n.2.2, fun p hp => ?_⟩
  cases List.mem_singleton.mp hp
  exact ⟨hb, n.2.1, n.2.2⟩
theorem sgn_ok {d : Int} (h0 : 0 ≤ d) (h1 : d < 36) : 0 ≤ sgn d ∧ sgn d < 256 := by unfold sgn; split <;> omega
theorem bytes_walk {prog : Program} {w : World} {A : Around} {E : Value → Shared → Prop} {s : Shared} {h₀ : Heap} {L ba : Addr} {bs : Array UInt8} {Q : Value → Shared → Prop} (N : News h₀ L s.heap [(ba, baObj bs)]) (hz : bs.size ≤ sizeLine)
    (hQ : ∀ t, Q (.bytes bs t) { s with toks := s.toks + 1 }) : wpAny (model prog w) A (call (.type "bytes") [.ref ba]) Q E s := ba_bytes (N.get (.head _)) hz hQ
local macro_rules | `(tactic| walk_at "loadName") => `(tactic| (refine ldn (by assumption) (by first | assumption | (dsimp only; first | assumption | exact if_pos rfl | (refine (if_neg (by decide)).trans ?_; first | assumption | exact if_pos rfl | (refine (if_neg (by decide)).trans ?_; first | assumption | exact if_pos rfl | (refine (if_neg (by decide)).trans ?_; first | assumption | exact if_pos rfl))))) ?_))
theorem dg {i : Int} (h0 : 0 ≤ i) (h1 : i < 36) : (((([97, 98, 99, 100, 101, 102, 103, 104, 105, 106, 107, 108, 109, 110, 111, 112, 113, 114, 115, 116, 117, 118, 119, 120, 121, 122, 48, 49, 50, 51, 52, 53, 54, 55, 56, 57] : List UInt8).getD i.toNat 0).toNat : Nat) : Int) = sgn i := by
  have := digTab_sgn i.toNat (by omega)
  rw [show ((i.toNat : Nat) : Int) = i by omega] at this
  exact this
local macro_rules | `(tactic| walk_at "call type:bytes") => `(tactic| (refine bytes_walk (by assumption) (by assumption) ?_; intro tb'))
/-- what holds between two turns -/
def GenI (g : Heap) (L ba : Addr) (s : Shared) (b : Int) (fin : List UInt8) (n : Nat) (s' : Shared) : Prop :=
  ∃ h tk m N j bs tN tj tb, s' = { s with heap := h, toks := tk } ∧ Fr g L h m ∧ News g L h [(ba, baObj bs)] ∧ m "N" = some (.int N tN) ∧ m "bias" = some (.int b tb) ∧ m "result" = some (.ref ba) ∧ m "j" = some (.int j tj) ∧
    0 ≤ N ∧ n = N.toNat ∧ fin = bs.toList ++ (digs b (N.toNat + 1) j N).map sgnB
theorem gen_code {w : World} {A : Around} {s : Shared} {R : Result → Shared → Prop} {p : Program} {loose : List Str} {mean : ExcName → Option Value} {mg mb : Str → Option Value} {N b : Int} {tN tb : Tok}
   (X : (hd.heap_1 w.params).In s.heap) (T : Top p loose mean mg mb s.heap) (hroom : A.depth + 1 < recursionLimit) (h0 : 0 ≤ N) (hl : (digs b (N.toNat + 1) 0 N).length ≤ 64)
   (h : ∀ h' tk t, (∀ b o, s.heap.get? b = some o → h'.get? b = some o) → R (.ok (.ret (.bytes (numB b N) t))) { s with heap := h', toks := tk }) :
   codeC (model PR w) A (.call (.ref 28) ⟨[.int N tN, .int b tb], []⟩) R s := by
  refine callC_plain (name := "generate_generalized_integer") (by omega) (X 28 _ rfl) rfl T.nolimit (codeRec_of X (by rfl)) (binds := [("N", .int N tN), ("bias", .int b tb)]) (by with_unfolding_all rfl) (locs (by rfl)) (fun h₁ F => ?_)
  have N0 : News s.heap s.heap.objs.size h₁ [] := News.nil
  have hroom' : ∀ env : Env, (A.deeper env).depth < recursionLimit := fun env => hroom
  have _d : (hd.heap_1 w.params).In s.heap → Challenge.rw_ny0055_01.row.prog = Challenge.rw_ny0055_01.row.prog := by k_fill; intros; rfl
  w_on
  refine execsC (assignC (callNameC ?_))
  refine nameX_B F X (topRead_of T) (by rfl) PyProof.Rows.Boot.bytearray (by decide) ?_
  refine cwTypeC rfl (PyProof.Rows.evalArgs_none ?_)
  refine ba_new fun ba h₂ hn hb hk hbs => ?_
  have F2 := frOn F hk
  have N2 : News s.heap s.heap.objs.size h₂ [(ba, baObj #[])] := fun p hp => by
    cases List.mem_singleton.mp hp
    refine ⟨hb, ?_, ?_⟩
    · rintro rfl
      obtain ⟨oL, es, ep, hL, _⟩ := F.ns
      rw [hn] at hL; cases hL
    · cases q : s.heap.get? ba with
      | none => rfl
      | some o => rw [F.keep _ _ q] at hn; cases hn
  clear hb hk F N0
  try dsimp only at *
  repeat' (first | walk1 | (dsimp only; walk1))
  try dsimp only
  refine execsC (wpC_of ?_)
  repeat' (first | walk1 | (dsimp only; walk1))
  try dsimp only
  rename_i F5 N5
  refine execsC (whileC (GenI s.heap s.heap.objs.size ba s b (numB b N).toList) ?_ N.toNat ?_)
  rotate_left
  · exact ⟨_, _, _, N, 0, #[], tN, _, tb, rfl, F5, N5, rfl, rfl, rfl, rfl, h0, rfl, by simp [numB]⟩
  clear F5 N5
  rintro n s' ⟨hh, tk, m, N', j, bs, tN', tj, tb', rfl, F, NN, m1, m2, m3, m4, hN, rfl, hfin⟩
  have ht1 := tT_ge j b
  have ht2 := tT_le j b
  have hbz : bs.size ≤ 64 := by
    have := congrArg List.length hfin
    simp [numB] at this
    omega
  repeat' (first | walk1 | (dsimp only; walk1))
  try dsimp only
  refine execsC (wpC_of ?_)
  repeat' (first | walk1 | (dsimp only; walk1))
  try dsimp only
  refine execsC (ifC ?_)
  repeat' (first | walk1 | (dsimp only; walk1))
  try dsimp only
  · rename News _ _ _ _ => N7
    refine execsC (exprC (methC ?_))
    repeat' (first | walk1 | (dsimp only; walk1))
    try dsimp only
    refine ba_getMethod (s := { s with heap := _, toks := _ }) (N7.get (.head _)) ?_
    refine cwBuiltin1C ?_
    repeat' (first | walk1 | (dsimp only; walk1))
    try dsimp only
    have hq := sgn_ok hN (show N' < 36 by have := tT_le j b; omega)
    rw [dg hN (by omega)]
    refine ba_append (s := { s with heap := _, toks := _ }) (N7.get (.head _)) hq.1 hq.2 (by rw [sizeLine_eq]; omega) fun h8 hb8 hs8 => ⟨rfl, ?_⟩
    rename Fr _ _ _ _ => F7
    obtain ⟨F8, N8⟩ := ba_on F7 N7 hs8 hb8
    clear F7 N7
    have hz : (bs.push (sgn N').toNat.toUInt8).size ≤ sizeLine := by rw [sizeLine_eq, Array.size_push]; omega
    dsimp only
    refine execsC (wpC_of ?_)
    repeat' (first | walk1 | (dsimp only; walk1))
    try dsimp only
    have e : bs.push (sgn N').toNat.toUInt8 = numB b N := by
      apply Array.toList_inj.mp
      rw [hfin, digs, if_pos (by assumption)]
      simp [sgnB]
    rw [e]
    rename Fr _ _ _ _ => F9
    exact h _ _ _ F9.keep
  · refine wpC_of ?_
    repeat' (first | walk1 | (dsimp only; walk1))
    try dsimp only
    rename News _ _ _ _ => N7
    rename Fr _ _ _ _ => F7
    have hge : ¬ N' < tT j b := by assumption
    have hd := digit_lt hge
    have hx := next_lt hge hN
    have e1 : (N' - tT j b).fmod (36 - tT j b) = (N' - tT j b) % (36 - tT j b) := Int.fmod_eq_emod_of_nonneg _ (by omega)
    have e2 : (N' - tT j b).fdiv (36 - tT j b) = (N' - tT j b) / (36 - tT j b) := Int.fdiv_eq_ediv_of_nonneg _ (by omega)
    rw [← e1] at hd
    rw [← e2] at hx
    refine execsC (exprC (methC ?_))
    repeat' (first | walk1 | (dsimp only; walk1))
    try dsimp only
    refine ba_getMethod (s := { s with heap := _, toks := _ }) (N7.get (.head _)) ?_
    refine cwBuiltin1C ?_
    repeat' (first | walk1 | (dsimp only; walk1))
    try dsimp only
    have hq := sgn_ok (show 0 ≤ tT j b + (N' - tT j b).fmod (36 - tT j b) by omega) hd.2
    rw [dg (by omega) hd.2]
    refine ba_append (s := { s with heap := _, toks := _ }) (N7.get (.head _)) hq.1 hq.2 (by rw [sizeLine_eq]; omega) fun h8 hb8 hs8 => ⟨rfl, ?_⟩
    obtain ⟨F8, N8⟩ := ba_on F7 N7 hs8 hb8
    clear F7 N7
    dsimp only
    refine wpC_of ?_
    repeat' (first | walk1 | (dsimp only; walk1))
    try dsimp only
    rename News _ _ _ _ => N9
    rename Fr _ _ _ _ => F9
    refine ⟨((N' - tT j b).fdiv (36 - tT j b)).toNat, hx.2, _, _, _, (N' - tT j b).fdiv (36 - tT j b), j + 1, _, _, _, tb', rfl, F9, N9, rfl, ?_, ?_, rfl, hx.1, rfl, ?_⟩
    · exact (if_neg (by decide)).trans ((if_neg (by decide)).trans ((if_neg (by decide)).trans m2))
    · exact (if_neg (by decide)).trans ((if_neg (by decide)).trans ((if_neg (by decide)).trans m3))
    · rw [hfin, digs, if_neg hge, e2, e1]
      have : digs b N'.toNat (j + 1) ((N' - tT j b) / (36 - tT j b)) = digs b (((N' - tT j b) / (36 - tT j b)).toNat + 1) (j + 1) ((N' - tT j b) / (36 - tT j b)) := digs_fuel (by rw [← e2]; exact hx.1) (by rw [← e2]; have := hx.2; omega) (by omega)
      rw [this]
      simp [sgnB]
end Mine
end

section
/- part Sz -/
open PySem PySem.W PyProof.Rows PySem.Calls
set_option maxRecDepth 100000
set_option maxHeartbeats 8000000
namespace Mine
section
variable {prog : Program} {w : World} {A : Around} {s : Shared} {env : Env}
theorem whileA {test : Expr} {body : List Stmt} {pos : Pos} {Q : Flow → Shared → Prop} (I : Nat → Shared → Prop)
    (turn : ∀ n s, I n s →
      wpAny (model prog w) A (isTrue test env (eval test env)) (fun b s₂ =>
        if b = true then wpAny (model prog w) A (execs body env) (fun f s₃ => match f with
            | .next | .cont => Less I n s₃
            | .brk => Q .next s₃
            | .ret v => Q (.ret v) s₃) (fun _ _ => False) s₂
        else Q .next s₂) (fun _ _ => False) s)
    (n : Nat) (h : I n s) : wpAny (model prog w) A (exec (.While test body [] pos) env) Q (fun _ _ => False) s := by
  refine wpAny_While (codeAny_mono (R := fun r s' => match r with | .ok f => Q f s' | .error e => False) (codeAny_whileLoop I (fun n s hI => ?_) n h) fun r s' hr => ?_)
  · refine wpAny_mono (turn n s hI) (fun b s₂ h₂ => ?_) fun _ _ q => q.elim
    cases b with
    | false =>
      simp only [Bool.false_eq_true, if_false] at h₂ ⊢
      exact wpAny_execs_nil h₂
    | true =>
      simp only [if_true] at h₂ ⊢
      exact wpAny_mono h₂ (fun f s₃ h₃ => by cases f <;> exact h₃) fun _ _ q => q.elim
  · cases r with
    | ok f => exact hr
    | error e => exact hr.elim
end
/-- a stop for the walk -/
def Hold (P : Prop) : Prop := P
theorem execsH {M : Model} {A : Around} {E : Value → Shared → Prop} {s : Shared} {env : Env} {st : Stmt} {rest : List Stmt} {Q : Flow → Shared → Prop}
    (h : wpAny M A (exec st env) (fun f s' => match f with | .next => Hold (wpAny M A (execs rest env) Q E s') | f => Q f s') E s) : wpAny M A (execs (st :: rest) env) Q E s := by
  refine wpAny_execs_cons (wpAny_mono h (fun f s' h' => ?_) fun _ _ x => x)
  cases f <;> exact h'
/-- the law's own count of signs -/
def szs (b : Int) : Nat → Int → Int → Int → Int → Int
  | 0, _, size, _, _ => size
  | f + 1, N, size, room, worth => if room ≤ N then szs b f N (size + 1) (room + tT size b * worth) (worth * (36 - tT size b)) else size
theorem minmax_tT (j b : Int) : (if (if 36 * j + 36 - b > 1 then 36 * j + 36 - b else 1) < 26 then if 36 * j + 36 - b > 1 then 36 * j + 36 - b else 1 else 26) = tT j b := by
  unfold tT
  (repeat' split) <;> omega
local macro_rules | `(tactic| walk_at "eval Name") => `(tactic| (refine nameX_B (by assumption) (by assumption) (topRead_of (by assumption)) (by rfl) (by first | exact PyProof.Rows.Boot.min | exact PyProof.Rows.Boot.max | exact PyProof.Rows.Boot.len | exact PyProof.Rows.Boot.zip) (by decide) ?_))
local macro_rules | `(tactic| walk_at "eval Name") => `(tactic| (refine nameX_K (by assumption) (by assumption) (topRead_of (by assumption)) (by rfl) ?_))
local macro_rules | `(tactic| walk_at "eval Name") => `(tactic| (refine nameX_L (by assumption) (by first | assumption | (dsimp only; first | assumption | exact if_pos rfl | (refine (if_neg (by decide)).trans ?_; first | assumption | exact if_pos rfl | (refine (if_neg (by decide)).trans ?_; first | assumption | exact if_pos rfl | (refine (if_neg (by decide)).trans ?_; first | assumption | exact if_pos rfl | (refine (if_neg (by decide)).trans ?_; first | assumption | exact if_pos rfl)))))) ?_))
/-- what holds between two turns -/
def SzI (g : Heap) (L : Addr) (s : Shared) (N b fin : Int) (n : Nat) (s' : Shared) : Prop :=
  ∃ h tk m news size room worth tN tb ts tr tw f, s' = { s with heap := h, toks := tk } ∧ Fr g L h m ∧ News g L h news ∧ m "number" = some (.int N tN) ∧ m "bias" = some (.int b tb) ∧ m "size" = some (.int size ts) ∧ m "room" = some (.int room tr) ∧ m "worth" = some (.int worth tw) ∧
    0 ≤ room ∧ 1 ≤ worth ∧ n = (N + 1 - room).toNat ∧ n < f ∧ fin = szs b f N size room worth
abbrev aa (d : Nat) (fr : Option (List Env)) (gu : Option (List Code)) (u : Nat) : Around := ⟨none, d, fr, gu, u⟩
theorem size_code {w : World} {d u : Nat} {fr : Option (List Env)} {gu : Option (List Code)} {s : Shared} {R : Result → Shared → Prop} {p : Program} {loose : List Str} {mean : ExcName → Option Value} {mg mb : Str → Option Value} {N b : Int} {tN tb : Tok}
   (X : (hd.heap_1 w.params).In s.heap) (T : Top p loose mean mg mb s.heap) (hroom : d + 1 < recursionLimit) (h0 : 0 ≤ N)
   (h : ∀ h' tk t, (∀ b o, s.heap.get? b = some o → h'.get? b = some o) → R (.ok (.ret (.int (szs b (N.toNat + 2) N 0 0 1) t))) { s with heap := h', toks := tk }) :
   codeAny (model PR w) ⟨none, d, fr, gu, u⟩ (.call (.ref 54) ⟨[.int N tN, .int b tb], []⟩) R s := by
  refine call_plain_ret (name := "_law_size") (by show d < recursionLimit; omega) (X 54 _ rfl) rfl T.nolimit (codeRec_of X (by rfl)) (binds := [("number", .int N tN), ("bias", .int b tb)]) (by with_unfolding_all rfl) (locs (by rfl)) (fun h₁ F => ?_)
  have N0 : News s.heap s.heap.objs.size h₁ [] := News.nil
  have _d : (hd.heap_1 w.params).In s.heap → Challenge.rw_ny0055_01.row.prog = Challenge.rw_ny0055_01.row.prog := by k_fill; intros; rfl
  w_on
  refine execsH ?_
  repeat' (first | walk1 | (dsimp only; walk1))
  try dsimp only
  refine execsH (whileA (SzI s.heap s.heap.objs.size s N b (szs b (N.toNat + 2) N 0 0 1)) ?_ (N + 1).toNat ?_)
  rotate_left
  · rename News _ _ _ _ => N5
    rename Fr _ _ _ _ => F5
    exact ⟨_, _, _, _, 0, 0, 1, tN, tb, _, _, _, N.toNat + 2, rfl, F5, N5, rfl, rfl, rfl, rfl, rfl, by omega, by omega, by simp, by omega, rfl⟩
  rintro n s' ⟨hh, tk, m, news, size, room, worth, tN', tb', ts, tr, tw, f, rfl, F, NN, m1, m2, m3, m4, m5, hr, hw, rfl, hf, hfin⟩
  have ht1 := tT_ge size b
  have ht2 := tT_le size b
  repeat' (first | walk1 | (dsimp only; walk1))
  try dsimp only
  · rename News _ _ _ _ => N9
    rename Fr _ _ _ _ => F9
    rename room ≤ N => hle
    simp only [minmax_tT] at F9
    have hpos : 1 ≤ tT size b * worth := by
      have := Int.mul_le_mul ht1 hw (by omega) (by omega)
      omega
    have hpos2 : 1 ≤ worth * (36 - tT size b) := by
      have := Int.mul_le_mul hw (show (1:Int) ≤ 36 - tT size b by omega) (by omega) (by omega)
      omega
    cases f with
    | zero => omega
    | succ f =>
      have e0 : szs b (f + 1) N size room worth = szs b f N (size + 1) (room + tT size b * worth) (worth * (36 - tT size b)) := by rw [szs, if_pos hle]
      rw [e0] at hfin
      refine ⟨(N + 1 - (room + tT size b * worth)).toNat, by omega, _, _, _, _, size + 1, room + tT size b * worth, worth * (36 - tT size b), tN', tb', _, _, _, f, rfl, F9, N9, ?_, ?_, rfl, rfl, rfl, by omega, hpos2, rfl, by omega, hfin⟩
      · exact (if_neg (by decide)).trans ((if_neg (by decide)).trans ((if_neg (by decide)).trans ((if_neg (by decide)).trans m1)))
      · exact (if_neg (by decide)).trans ((if_neg (by decide)).trans ((if_neg (by decide)).trans ((if_neg (by decide)).trans m2)))
  · rename ¬ room ≤ N => hle
    have e : szs b (N.toNat + 2) N 0 0 1 = size := by
      rw [hfin]
      cases f with
      | zero => omega
      | succ f => rw [szs, if_neg hle]
    rw [e] at h
    dsimp only
    show wpAny _ _ _ _ _ _
    repeat' (first | walk1 | (dsimp only; walk1))
    try dsimp only
    rename Fr _ _ _ _ => F9
    exact h _ _ _ F9.keep
end Mine
end

section
/- part De -/
open PySem PySem.W PyProof.Rows PySem.Calls
set_option maxRecDepth 100000
set_option maxHeartbeats 8000000
namespace Mine
local macro_rules | `(tactic| walk_at "call ref") => `(tactic| (with_reducible refine T_walk (by assumption) (by assumption) (by assumption) (by assumption) ?_ ?_; (show _ < recursionLimit; (first | assumption | (simp only [Around.deeper]; omega))); intro h' tk' t' F' N'))
local macro_rules | `(tactic| walk_at "eval Name") => `(tactic| (refine nameX_K (by assumption) (by assumption) (topRead_of (by assumption)) (by rfl) ?_))
local macro_rules | `(tactic| walk_at "eval Name") => `(tactic| (refine nameX_L (by assumption) (by first | assumption | (dsimp only; first | assumption | exact if_pos rfl | (refine (if_neg (by decide)).trans ?_; first | assumption | exact if_pos rfl | (refine (if_neg (by decide)).trans ?_; first | assumption | exact if_pos rfl | (refine (if_neg (by decide)).trans ?_; first | assumption | exact if_pos rfl | (refine (if_neg (by decide)).trans ?_; first | assumption | exact if_pos rfl | (refine (if_neg (by decide)).trans ?_; first | assumption | exact if_pos rfl)))))))  ?_))
local macro_rules | `(tactic| walk_at "loadName") => `(tactic| (refine ldn (by assumption) (by first | assumption | (dsimp only; first | assumption | exact if_pos rfl | (refine (if_neg (by decide)).trans ?_; first | assumption | exact if_pos rfl | (refine (if_neg (by decide)).trans ?_; first | assumption | exact if_pos rfl | (refine (if_neg (by decide)).trans ?_; first | assumption | exact if_pos rfl | (refine (if_neg (by decide)).trans ?_; first | assumption | exact if_pos rfl | (refine (if_neg (by decide)).trans ?_; first | assumption | exact if_pos rfl))))))) ?_))
/-- the great sign of a digit -/
def upv (d : Int) : Int := if d < 26 then d + 65 else d + 22
def upB (d : Int) : UInt8 := (upv d).toNat.toUInt8
theorem upB_toNat {d : Int} (h0 : 0 ≤ d) (h1 : d < 36) : (((upB d).toNat : Nat) : Int) = upv d := by
  have h : ∀ k : Nat, k < 36 → (((upB k).toNat : Nat) : Int) = upv k := by decide
  have := h d.toNat (by omega)
  rwa [show ((d.toNat : Nat) : Int) = d by omega] at this
theorem bytes_item {prog : Program} {w : World} {A : Around} {E : Value → Shared → Prop} {s : Shared} {value slice : PySem.Expr} {bs : Array UInt8} {i c d : Int} {t u : Tok} {Q : Value → Shared → Prop} (hz : bs.size ≤ 2 ^ 20) (h0 : 0 ≤ i)
    (hi : bs.toList[i.toNat]? = some (upB d)) (hd : 0 ≤ d ∧ d < 36) (hc : upv d = c)
    (h : Q (.int c s.toks) { s with toks := s.toks + 1 })
    (hs : subscripted slice false (.bytes bs t) (.int i u) = operate [.bytes bs t, .int i u] (getItem (.bytes bs t) (.int i u)) := by with_unfolding_all rfl) :
    wpAny (model prog w) A (subscriptTail value slice (.bytes bs t) (.int i u)) Q E s := by
  have hlt : i.toNat < bs.toList.length := (List.getElem?_eq_some_iff.mp hi).1
  refine tail_any (typeIs_bytes s _ t) FB.slot_bytes_getitem.lookup (getItem_bytes (l := bs.toList) (by simp; omega) h0 (by omega) ?_) hs
  rw [List.getD_eq_getElem?_getD, hi, Option.getD_some, upB_toNat hd.1 hd.2, hc]
  exact h
local macro_rules | `(tactic| walk_at "subscriptTail") => `(tactic| (refine bytes_item (by assumption) (by assumption) (by assumption) (by assumption) (by assumption) ?_))
/-- what holds between two turns -/
def DeI (g : Heap) (L : Addr) (s : Shared) (bs : Array UInt8) (b N₀ q : Int) (post : List UInt8) (n : Nat) (s' : Shared) : Prop :=
  ∃ h tk m news pos res w j N te tp tb ter tr tw tj pre, s' = { s with heap := h, toks := tk } ∧ Fr g L h m ∧ News g L h news ∧ m "extended" = some (.bytes bs te) ∧ m "extpos" = some (.int pos tp) ∧ m "bias" = some (.int b tb) ∧ m "errors" = some (.str "strict" ter) ∧
    m "result" = some (.int res tr) ∧ m "w" = some (.int w tw) ∧ m "j" = some (.int j tj) ∧ 0 ≤ N ∧ n = N.toNat ∧ 1 ≤ w ∧ res + w * N = N₀ ∧ bs.toList = pre ++ (digs b (N.toNat + 1) j N).map upB ++ post ∧ (pre.length : Int) = pos ∧
    q = pos + (digs b (N.toNat + 1) j N).length
theorem dec_arith {res wt dd k z N' N : Int} (hres : res + wt * N' = N) (hval : dd + k * z = N') : res + dd * wt + wt * k * z = N := by
  rw [← hres, ← hval, Int.mul_add, Int.mul_assoc, Int.mul_comm dd wt]; omega
theorem dl1 {m : Str → Option Value} {y : Str} {v v1 v2 v3 v4 v5 v6 v7 : Value} (h : m y = some v) (h1 : y ≠ "j" := by decide) (h2 : y ≠ "w" := by decide) (h3 : y ≠ "result" := by decide) (h4 : y ≠ "t" := by decide) (h5 : y ≠ "digit" := by decide) (h6 : y ≠ "extpos" := by decide) (h7 : y ≠ "char" := by decide) :
    (if y = "j" then some v1 else if y = "w" then some v2 else if y = "result" then some v3 else if y = "t" then some v4 else if y = "digit" then some v5 else if y = "extpos" then some v6 else if y = "char" then some v7 else m y) = some v := by
  rw [if_neg h1, if_neg h2, if_neg h3, if_neg h4, if_neg h5, if_neg h6, if_neg h7, h]
theorem dec_code {w : World} {d u : Nat} {fr : Option (List Env)} {gu : Option (List Code)} {s : Shared} {R : Result → Shared → Prop} {p : Program} {loose : List Str} {mean : ExcName → Option Value} {mg mb : Str → Option Value}
   {bs : Array UInt8} {N b : Int} {te tp tb ter : Tok} {pre post : List UInt8}
   (X : (hd.heap_1 w.params).In s.heap) (T : Top p loose mean mg mb s.heap) (hroom : d + 1 < recursionLimit) (h0 : 0 ≤ N) (hz : bs.size ≤ 2 ^ 20)
   (hbs : bs.toList = pre ++ (digs b (N.toNat + 1) 0 N).map upB ++ post)
   (h : ∀ h' tk a t1 t2 n, (∀ b o, s.heap.get? b = some o → h'.get? b = some o) → s.heap.get? a = none → h'.get? a = some { cls := .type "tuple", data := .seq #[.int (pre.length + (digs b (N.toNat + 1) 0 N).length) t1, .int N t2] n } → R (.ok (.ret (.ref a))) { s with heap := h', toks := tk }) :
   codeAny (model PR w) ⟨none, d, fr, gu, u⟩ (.call (.ref 35) ⟨[.bytes bs te, .int pre.length tp, .int b tb, .str "strict" ter], []⟩) R s := by
  refine call_plain_ret (name := "decode_generalized_number") (by show d < recursionLimit; omega) (X 35 _ rfl) rfl T.nolimit (codeRec_of X (by rfl)) (binds := [("extended", .bytes bs te), ("extpos", .int pre.length tp), ("bias", .int b tb), ("errors", .str "strict" ter)]) (by with_unfolding_all rfl) (locs (by rfl)) (fun h₁ F => ?_)
  have N0 : News s.heap s.heap.objs.size h₁ [] := News.nil
  have _d : (hd.heap_1 w.params).In s.heap → Challenge.rw_ny0055_01.row.prog = Challenge.rw_ny0055_01.row.prog := by k_fill; intros; rfl
  have hroom' : ∀ env : Env, ((⟨none, d, fr, gu, u⟩ : Around).deeper env).depth < recursionLimit := fun env => hroom
  w_on
  refine execsH ?_
  repeat' (first | walk1 | (dsimp only; walk1))
  try dsimp only
  refine execsH ?_
  repeat' (first | walk1 | (dsimp only; walk1))
  try dsimp only
  refine execsH ?_
  repeat' (first | walk1 | (dsimp only; walk1))
  try dsimp only
  refine execsH (whileA (DeI s.heap s.heap.objs.size s bs b N (pre.length + (digs b (N.toNat + 1) 0 N).length) post) ?_ N.toNat ?_)
  rotate_left
  · rename News _ _ _ _ => N5
    rename Fr _ _ _ _ => F5
    exact ⟨_, _, _, _, pre.length, 0, 1, 0, N, te, tp, tb, ter, _, _, _, pre, rfl, F5, N5, rfl, rfl, rfl, rfl, rfl, rfl, rfl, h0, rfl, by omega, by omega, hbs, rfl, rfl⟩
  rintro n s' ⟨hh, tk, m, news, pos, res, wt, j, N', te', tp', tb', ter', tr, tw, tj, pre', rfl, F, NN, m1, m2, m3, m4, m5, m6, m7, hN, rfl, hw, hres, hbs', hpos, hq⟩
  have ht1 := tT_ge j b
  have ht2 := tT_le j b
  have hp0 : 0 ≤ pos := by omega
  obtain ⟨dd, rest, hdig, hdd, hcase⟩ : ∃ dd rest, digs b (N'.toNat + 1) j N' = dd :: rest ∧ (0 ≤ dd ∧ dd < 36) ∧ ((N' < tT j b ∧ dd = N' ∧ rest = []) ∨ (¬ N' < tT j b ∧ tT j b ≤ dd ∧ dd + (36 - tT j b) * ((N' - tT j b) / (36 - tT j b)) = N' ∧ rest = digs b (((N' - tT j b) / (36 - tT j b)).toNat + 1) (j + 1) ((N' - tT j b) / (36 - tT j b)))) := by
    by_cases hlt : N' < tT j b
    · exact ⟨N', [], by rw [digs, if_pos hlt], ⟨hN, by omega⟩, .inl ⟨hlt, rfl, rfl⟩⟩
    · have hd := digit_lt hlt
      have hx := next_lt hlt hN
      refine ⟨_, _, by rw [digs, if_neg hlt], ⟨by omega, hd.2⟩, .inr ⟨hlt, hd.1, ?_, ?_⟩⟩
      · have := Int.emod_add_mul_ediv (N' - tT j b) (36 - tT j b)
        omega
      · exact digs_fuel hx.1 (by omega) (by omega)
  have hitem : bs.toList[pos.toNat]? = some (upB dd) := by
    rw [hbs', hdig, List.map_cons, List.append_assoc, List.getElem?_append_right (by omega), show pos.toNat - pre'.length = 0 by omega]
    rfl
  obtain ⟨c, hc, hc2⟩ : ∃ c, upv dd = c ∧ ((dd < 26 ∧ c = dd + 65) ∨ (26 ≤ dd ∧ c = dd + 22)) := by
    refine ⟨_, rfl, ?_⟩
    unfold upv
    split
    · exact .inl ⟨‹_›, rfl⟩
    · exact .inr ⟨by omega, rfl⟩
  rcases hc2 with ⟨hc3, hc4⟩ | ⟨hc3, hc4⟩
  · repeat' (first | walk1 | (dsimp only; walk1))
    · rename News _ _ _ _ => N9
      rename Fr _ _ _ _ => F9
      rename c - 65 < tT j b => hl
      obtain ⟨hlt, hdN, hrest⟩ : N' < tT j b ∧ dd = N' ∧ rest = [] := by
        rcases hcase with q | q
        · exact q
        · exfalso; omega
      have e1 : pos + 1 = pre.length + (digs b (N.toNat + 1) 0 N).length := by rw [hq, hdig, hrest]; simp
      have e2 : res + (c - 65) * wt = N := by
        rw [show c - 65 = N' by omega, Int.mul_comm]; exact hres
      have n9 := N9 _ (.head _)
      rw [e1, e2] at n9
      exact h _ _ _ _ _ _ F9.keep n9.2.2 n9.1
    · try dsimp only
      rename ¬ c - 65 < tT j b => hl
      rename News _ _ _ _ => N9
      rename Fr _ _ _ _ => F9
      obtain ⟨hge, hdN, hval, hrest⟩ : ¬ N' < tT j b ∧ tT j b ≤ dd ∧ dd + (36 - tT j b) * ((N' - tT j b) / (36 - tT j b)) = N' ∧ rest = digs b (((N' - tT j b) / (36 - tT j b)).toNat + 1) (j + 1) ((N' - tT j b) / (36 - tT j b)) := by
        rcases hcase with q | q
        · exfalso; omega
        · exact q
      have hx := next_lt hge hN
      refine ⟨((N' - tT j b) / (36 - tT j b)).toNat, hx.2, _, _, _, _, pos + 1, res + (c - 65) * wt, wt * (36 - tT j b), j + 1, (N' - tT j b) / (36 - tT j b), te', _, tb', ter', _, _, _, pre' ++ [upB dd], rfl, F9, N9, dl1 m1, rfl, dl1 m3, dl1 m4, rfl, rfl, rfl, hx.1, rfl, ?_, ?_, ?_, ?_, ?_⟩
      · have := Int.mul_le_mul hw (show (1:Int) ≤ 36 - tT j b by omega) (by omega) (by omega)
        omega
      · rw [show c - 65 = dd by omega]
        exact dec_arith hres hval
      · rw [hbs', hdig, hrest]; simp
      · simp; omega
      · rw [hq, hdig, hrest]; simp; omega
  · repeat' (first | walk1 | (dsimp only; walk1))
    · try dsimp only
      rename News _ _ _ _ => N9
      rename Fr _ _ _ _ => F9
      obtain ⟨hge, hdN, hval, hrest⟩ : ¬ N' < tT j b ∧ tT j b ≤ dd ∧ dd + (36 - tT j b) * ((N' - tT j b) / (36 - tT j b)) = N' ∧ rest = digs b (((N' - tT j b) / (36 - tT j b)).toNat + 1) (j + 1) ((N' - tT j b) / (36 - tT j b)) := by
        rcases hcase with q | q
        · exfalso; omega
        · exact q
      have hx := next_lt hge hN
      refine ⟨((N' - tT j b) / (36 - tT j b)).toNat, hx.2, _, _, _, _, pos + 1, res + (c - 22) * wt, wt * (36 - tT j b), j + 1, (N' - tT j b) / (36 - tT j b), te', _, tb', ter', _, _, _, pre' ++ [upB dd], rfl, F9, N9, dl1 m1, rfl, dl1 m3, dl1 m4, rfl, rfl, rfl, hx.1, rfl, ?_, ?_, ?_, ?_, ?_⟩
      · have := Int.mul_le_mul hw (show (1:Int) ≤ 36 - tT j b by omega) (by omega) (by omega)
        omega
      · rw [show c - 22 = dd by omega]
        exact dec_arith hres hval
      · rw [hbs', hdig, hrest]; simp
      · simp; omega
      · rw [hq, hdig, hrest]; simp; omega
end Mine
end

section
/- part Rd -/
open PySem PySem.W PyProof.Rows PySem.Calls
set_option maxRecDepth 100000
set_option maxHeartbeats 8000000
namespace Mine
local macro_rules | `(tactic| walk_at "eval Name") => `(tactic| (refine nameX_B (by assumption) (by assumption) (topRead_of (by assumption)) (by rfl) (by first | exact PyProof.Rows.Boot.min | exact PyProof.Rows.Boot.max | exact PyProof.Rows.Boot.len | exact PyProof.Rows.Boot.zip) (by decide) ?_))
local macro_rules | `(tactic| walk_at "eval Name") => `(tactic| (refine nameX_K (by assumption) (by assumption) (topRead_of (by assumption)) (by rfl) ?_))
local macro_rules | `(tactic| walk_at "eval Name") => `(tactic| (refine nameX_L (by assumption) (by first | assumption | (dsimp only; first | assumption | exact if_pos rfl | (refine (if_neg (by decide)).trans ?_; first | assumption | exact if_pos rfl | (refine (if_neg (by decide)).trans ?_; first | assumption | exact if_pos rfl | (refine (if_neg (by decide)).trans ?_; first | assumption | exact if_pos rfl | (refine (if_neg (by decide)).trans ?_; first | assumption | exact if_pos rfl | (refine (if_neg (by decide)).trans ?_; first | assumption | exact if_pos rfl)))))))  ?_))
/-- all numerals of the numbers, one behind the other, in great letters -/
def allUp (b : Int) : List Int → List UInt8
  | [] => []
  | N :: r => (digs b (N.toNat + 1) 0 N).map upB ++ allUp b r
theorem dec_walk {w : World} {d u : Nat} {fr : Option (List Env)} {gu : Option (List Code)} {s : Shared} {E : Value → Shared → Prop} {Q : Value → Shared → Prop} {p : Program} {loose : List Str} {mean : ExcName → Option Value} {mg mb m : Str → Option Value}
   {bs : Array UInt8} {N b : Int} {te tp tb ter : Tok} {pre post : List UInt8} {pos : Int} {h₀ : Heap} {L : Addr} {news : List (Addr × Obj)}
   (F : Fr h₀ L s.heap m) (NN : News h₀ L s.heap news) (X : (hd.heap_1 w.params).In h₀) (T : Top p loose mean mg mb h₀) (hroom : d + 1 < recursionLimit) (h0 : 0 ≤ N) (hz : bs.size ≤ 2 ^ 20)
   (hbs : bs.toList = pre ++ (digs b (N.toNat + 1) 0 N).map upB ++ post) (hp : (pre.length : Int) = pos)
   (h : ∀ h' tk a t1 t2 n, Fr h₀ L h' m → News h₀ L h' ((a, { cls := .type "tuple", data := .seq #[.int (pos + (digs b (N.toNat + 1) 0 N).length) t1, .int N t2] n }) :: news) → Q (.ref a) { s with heap := h', toks := tk }) :
   wpAny (model PR w) ⟨none, d, fr, gu, u⟩ (call (.ref 35) [.bytes bs te, .int pos tp, .int b tb, .str "strict" ter]) Q E s := by
  subst hp
  refine wpAny_call (dec_code (fun a o e => F.keep a o (X a o e)) (T.keeps F.keep) hroom h0 hz hbs fun h' tk a t1 t2 n k hn ha => ?_)
  refine h h' tk a t1 t2 n (frOn F k) fun p hp => ?_
  rcases List.mem_cons.mp hp with rfl | hp
  · refine ⟨ha, ?_, ?_⟩
    · rintro rfl
      obtain ⟨oL, es, ep, hL, _⟩ := F.ns
      rw [hn] at hL; cases hL
    · cases q : h₀.get? a with
      | none => rfl
      | some o => rw [F.keep _ _ q] at hn; cases hn
  · exact (newsOn NN k) p hp
local macro_rules | `(tactic| walk_at "call ref") => `(tactic| (refine dec_walk (by assumption) (by assumption) (by assumption) (by assumption) (by assumption) (by assumption) (by assumption) (by assumption) (by assumption) ?_; intro h' tk' a' t1' t2' n' F' N'))
theorem digs_ne (b : Int) (f : Nat) (j N : Int) : digs b (f + 1) j N ≠ [] := by
  rw [digs]; split <;> simp
/-- what holds between two turns -/
def RdI (g : Heap) (L : Addr) (s : Shared) (bs : Array UInt8) (b : Int) (Ns : List Int) (n : Nat) (s' : Shared) : Prop :=
  ∃ h tk m news place to tb tp D vs k pre done left, s' = { s with heap := h, toks := tk } ∧ Fr g L h m ∧ News g L h ((D, { cls := .type "list", data := .seq (List.toArray vs) k }) :: news) ∧ m "octets" = some (.bytes bs to) ∧ m "bias" = some (.int b tb) ∧ m "place" = some (.int place tp) ∧ m "numbers" = some (.ref D) ∧
    IntsAre vs done ∧ Ns = done ++ left ∧ bs.toList = pre ++ allUp b left ∧ (pre.length : Int) = place ∧ n = left.length
theorem read_code {w : World} {d u : Nat} {fr : Option (List Env)} {gu : Option (List Code)} {s : Shared} {R : Result → Shared → Prop} {p : Program} {loose : List Str} {mean : ExcName → Option Value} {mg mb : Str → Option Value}
   {bs : Array UInt8} {b : Int} {te tb : Tok} {Ns : List Int}
   (X : (hd.heap_1 w.params).In s.heap) (T : Top p loose mean mg mb s.heap) (hroom : d + 2 < recursionLimit) (h0 : ∀ N ∈ Ns, 0 ≤ N) (hz : bs.size ≤ 2 ^ 20) (hlen : Ns.length ≤ 64)
   (hbs : bs.toList = allUp b Ns)
   (h : ∀ h' tk a vs n, (∀ b o, s.heap.get? b = some o → h'.get? b = some o) → s.heap.get? a = none → h'.get? a = some { cls := .type "list", data := .seq (List.toArray vs) n } → IntsAre vs Ns → R (.ok (.ret (.ref a))) { s with heap := h', toks := tk }) :
   codeAny (model PR w) ⟨none, d, fr, gu, u⟩ (.call (.ref 61) ⟨[.bytes bs te, .int b tb], []⟩) R s := by
  refine call_plain_ret (name := "_law_read") (by show d < recursionLimit; omega) (X 61 _ rfl) rfl T.nolimit (codeRec_of X (by rfl)) (binds := [("octets", .bytes bs te), ("bias", .int b tb)]) (by with_unfolding_all rfl) (locs (by rfl)) (fun h₁ F => ?_)
  have N0 : News s.heap s.heap.objs.size h₁ [] := News.nil
  have _d : (hd.heap_1 w.params).In s.heap → Challenge.rw_ny0055_01.row.prog = Challenge.rw_ny0055_01.row.prog := by k_fill; intros; rfl
  w_on
  refine execsH ?_
  repeat' (first | walk1 | (dsimp only; walk1))
  try dsimp only
  refine execsH (whileA (RdI s.heap s.heap.objs.size s bs b Ns) ?_ Ns.length ?_)
  rotate_left
  · rename News _ _ _ _ => N5
    rename Fr _ _ _ _ => F5
    exact ⟨_, _, _, [_], 0, te, tb, _, _, [], _, [], [], Ns, rfl, F5, fun p hp => N5 p (by
      rcases List.mem_cons.mp hp with rfl | hp
      · exact .tail _ (.head _)
      · cases List.mem_singleton.mp hp; exact .head _), rfl, rfl, rfl, rfl, .nil, rfl, by simpa using hbs, rfl, rfl⟩
  rintro n s' ⟨hh, tk, m, news, place, to, tb', tp, D, vs, k, pre, dn, left, rfl, F, NN, m1, m2, m3, m4, hi, hNs, hbs', hpl, rfl⟩
  have hroom2 : (d + 1) + 1 < recursionLimit := hroom
  cases left with
  | nil =>
    have hsz : (bs.size : Int) = place := by
      have := congrArg List.length hbs'
      simp [allUp] at this
      omega
    repeat' (first | walk1 | (dsimp only; walk1))
    show wpAny _ _ _ _ _ _
    repeat' (first | walk1 | (dsimp only; walk1))
    try dsimp only
    have n9 := NN _ (.head _)
    refine h _ _ _ _ _ F.keep n9.2.2 n9.1 (by rw [hNs, List.append_nil]; exact hi)
  | cons N r =>
    have hN : 0 ≤ N := h0 N (by rw [hNs]; simp)
    have hb2 : bs.toList = pre ++ (digs b (N.toNat + 1) 0 N).map upB ++ allUp b r := by rw [hbs', allUp]; simp
    have hsz : place < (bs.size : Int) := by
      have := congrArg List.length hb2
      have hne := List.length_pos_iff.mpr (digs_ne b N.toNat 0 N)
      simp at this
      omega
    repeat' (first | walk1 | (dsimp only; walk1))
    try dsimp only
    rename News _ _ _ _ => N9
    rename Fr _ _ _ _ => F9
    have hvl : vs.length ≤ 64 := by
      have := hi.length
      rw [hNs] at hlen
      simp at hlen
      omega
    have n1 := (N9 _ (.tail _ (.tail _ (.head _)))).1
    have n2 := (N9 _ (.head _)).1
    refine add_lists F9 N9 (vs := vs) (ws := [.int N _]) ⟨_, n1, rfl, k, rfl⟩ ⟨_, n2, rfl, _, rfl⟩ (fun h8 F8 N8 => ?_) (by rw [sizeLine_eq]; simp; omega)
    clear F9 N9
    repeat' (first | walk1 | (dsimp only; walk1))
    try dsimp only
    rename News _ _ _ _ => N10
    rename Fr _ _ _ _ => F10
    refine ⟨r.length, by simp, _, _, _, _, place + (digs b (N.toNat + 1) 0 N).length, to, tb', _, _, vs ++ [.int N _], 0, pre ++ (digs b (N.toNat + 1) 0 N).map upB, dn ++ [N], r, rfl, F10, N10, ?_, ?_, rfl, rfl, ksk_snoc hi, by rw [hNs]; simp, hb2, by simp; omega, rfl⟩
    · exact (if_neg (by decide)).trans ((if_neg (by decide)).trans ((if_neg (by decide)).trans m1))
    · exact (if_neg (by decide)).trans ((if_neg (by decide)).trans ((if_neg (by decide)).trans m2))
end Mine
end

section
/- part Co -/
open PySem PySem.W PyProof.Rows PySem.Calls
set_option maxRecDepth 100000
set_option maxHeartbeats 8000000
namespace Mine
section
variable {prog : Program} {w : World} {A : Around} {s : Shared} {env : Env} {R : Result → Shared → Prop}
/-- the end of a comprehension's run -/
def CPostA (M : Model) (A : Around) (use : Option (Value → Sem Unit)) (Q : Value → Shared → Prop) (D C : Addr) (r : Result) (s' : Shared) : Prop :=
  match r, use with
  | .ok _, none => ∃ m, s'.heap.Ns C m ∧ ∀ h', Heap.SameBut C s'.heap h' → Q (.ref D) { s' with heap := h' }
  | .ok _, some u => wpAny M A (u (.ref D)) (fun _ s'' => ∃ m, s''.heap.Ns C m ∧ ∀ h', Heap.SameBut C s''.heap h' → Q .none { s'' with heap := h' }) (fun _ _ => False) s'
  | .error _, _ => False
theorem compA {elt target iter : Expr} {ifs : List Expr} {scope : Scope} {cl : List (Str × Addr)} {pos pos' : Pos} {use : Option (Value → Sem Unit)} {Q : Value → Shared → Prop}
    (hclos : closureFor scope env = pure cl) (hcell : ∀ y ∈ scope.names, y.2 ≠ .cell) (hkind : scope.kind = .function) (hnames : ∀ x ∈ scope.names, x.2 = .local → scope.names.lookup x.1 = some .local)
    (h : wpAny (model prog w) A (eval iter env) (fun x s₁ => wpAny (model prog w) A (pyIter x) (fun it s₂ =>
      ∀ h₄, h₄.get? s₂.heap.objs.size = some { cls := .type "list", data := .seq #[] } → h₄.Ns (s₂.heap.objs.size + 1) (fun _ => none) → (∀ b o, s₂.heap.get? b = some o → h₄.get? b = some o) → h₄.objs.size = s₂.heap.objs.size + 2 →
        codeAny (model prog w) A (.compStart (.ListComp elt [⟨target, iter, ifs, 0⟩] scope pos) 0 it (.ref s₂.heap.objs.size) (compEnvC scope cl (s₂.heap.objs.size + 1) env))
          (CPostA (model prog w) A use Q s₂.heap.objs.size (s₂.heap.objs.size + 1)) { s₂ with heap := h₄ }) (fun _ _ => False) s₁) (fun _ _ => False) s)
    (hs : ∀ x, foldedSetIterable iter env x = pure x := by intro _; rfl) :
    wpAny (model prog w) A (comprehension (.ListComp elt [⟨target, iter, ifs, 0⟩] scope pos) scope env pos' (newList []) false (eval iter env) use) Q (fun _ _ => False) s := by
  unfold comprehension
  rw [hclos]
  refine wpAny_bind (id (wpAny_mono h (fun x s₁ h₁ => wpAny_bind (id (wpAny_standAt (wpAny_bind ?_)))) fun _ _ x => x))
  show wpAny _ _ (foldedSetIterable iter env x) _ _ s₁
  rw [hs x]
  refine wpAny_pure (wpAny_bind (wpAny_holding (id (wpAny_mono h₁ (fun it s₂ h₂ => ?_) fun _ _ x => x))))
  have hif : ∀ {c : Prop} [Decidable c] {p : Pos} {k : PUnit → Sem Value} {s : Shared} {Q : Value → Shared → Prop}, wpAny (model prog w) A (k ⟨⟩) Q (fun _ _ => False) s → wpAny (model prog w) A (if c then (standAt p >>= k) else k ⟨⟩) Q (fun _ _ => False) s := by
    intro c _ p k s Q hk
    split
    · exact wpAny_bind (wpAny_standAt hk)
    · exact hk
  refine hif (wpAny_bind (id (wpAny_newObj_type (hd := by size_fits) ?_)))
  refine wpAny_bind (wpAny_pure (wpAny_bind (id (wpAny_newFunctionEnv hcell (by intro y hy; simp at hy) (fun h₄ hns hsb => ?_) hkind))))
  dsimp only
  have e1 : ((s₂.heap.push { cls := .type "list", data := .seq ([] : List Value).toArray }).objs.size) = s₂.heap.objs.size + 1 := Heap.size_push _ _
  have hk4 : ∀ b o, s₂.heap.get? b = some o → h₄.get? b = some o := fun b o e => hsb.extBut b o (Nat.ne_of_lt (by show b < _; rw [e1]; exact Nat.lt_succ_of_lt (Heap.lt_size e))) (Heap.get?_push_of_some _ (Heap.get?_push_of_some _ e))
  have hD : h₄.get? s₂.heap.objs.size = some { cls := .type "list", data := .seq #[] } := hsb.extBut _ _ (Nat.ne_of_lt (by show _ < _; rw [e1]; exact Nat.lt_succ_self _)) (Heap.get?_push_of_some _ (Heap.get?_push_size _ rfl))
  have hsz : h₄.objs.size = s₂.heap.objs.size + 2 := by rw [hsb.1, Heap.size_push, e1]
  dsimp only at hns hsb
  rw [e1] at hns
  have main := h₂ h₄ hD hns hk4 hsz
  generalize hCC : s₂.heap.objs.size + 1 = CC at *
  have hv : ∀ x ∈ (scope.names.filter fun x => (x.2 == .local || x.2 == .cell) && x.1 != (".0" : Str)).reverse, x.2 = .local →
      Env.kindOf (compEnvC scope cl CC env) x.1 = some .local := fun x hx hl => lookup_relabel_local (hnames x (List.mem_filter.mp (List.mem_reverse.mp hx)).1 hl)
  have hv' : ∀ x ∈ (scope.names.filter fun x => (x.2 == .local || x.2 == .cell) && x.1 != (".0" : Str)).reverse.drop 1 ++ (scope.names.filter fun x => (x.2 == .local || x.2 == .cell) && x.1 != (".0" : Str)).reverse.take 1,
      x.2 = .local → Env.kindOf (compEnvC scope cl CC env) x.1 = some .local := fun x hx hl => by
    rcases List.mem_append.mp hx with h1 | h1
    · exact hv x (List.mem_of_mem_drop h1) hl
    · exact hv x (List.mem_of_mem_take h1) hl
  refine wpAny_holding (wpAny_bind (wpAny_attempt (wpAny_holding (wpAny_run (codeAny_mono (R := CPostA (model prog w) A use Q s₂.heap.objs.size CC) ?_ fun r s' hr => ?_)))))
  · simp only [e1]
    exact main
  cases r with
  | ok f =>
    cases use with
    | none =>
      obtain ⟨m, hn, hr⟩ := hr
      refine wpAny_bind (wpAny_holding (id ?_))
      simp only [e1]
      exact wpAny_comp_letGo (cenv := compEnvC scope cl CC env) hkind _ s' m hv hn fun h' m' _ hs' => wpAny_pure (hr h' hs')
    | some u =>
      refine wpAny_bind (id (wpAny_rule (wpAny_bind (wpAny_holding (id (wpAny_mono hr (fun _ s'' hr' => ?_) fun _ _ h' => h'))))))
      obtain ⟨m, hn, hr'⟩ := hr'
      refine wpAny_bind (id ?_)
      simp only [e1]
      exact wpAny_comp_letGo (cenv := compEnvC scope cl CC env) hkind _ s'' m hv' hn fun h' m' _ hs' => wpAny_pure (hr' h' hs')
  | error x => cases use <;> exact hr.elim
theorem loopA {elt target iter : Expr} {ifs : List Expr} {scope : Scope} {pos : Pos} {it acc : Value} (I : Nat → Shared → Prop) (n : Nat) (h : I n s)
    (hiter : ∀ (n : Nat) (s : Shared) (Q : Value → Shared → Prop), I n s → Q it s → wpAny (model prog w) A (pyIter it) Q (fun _ _ => False) s)
    (turn : ∀ n s, I n s → wpAny (model prog w) A (pyNext it) (fun r s₁ => match r with
      | none => R (.ok .next) s₁
      | some v => wpAny (model prog w) A (letOwnedTupleGo target it v) (fun _ s₁' => wpAny (model prog w) A (assign target env v) (fun _ s₂ =>
          wpAny (model prog w) A (forIn ifs true fun c r => if r = true then do let ok ← isTrue c env (eval c env); pure (ForInStep.yield ok) else pure (ForInStep.yield r)) (fun ok s₃ =>
            if ok = true then wpAny (model prog w) A (eval elt env) (fun x s₄ =>
              wpAny (model prog w) A (call (.builtin "list.append") [acc, x]) (fun _ s₅ => Less I n s₅) (fun _ _ => False) s₄) (fun _ _ => False) s₃
            else Less I n s₃) (fun _ _ => False) s₂) (fun _ _ => False) s₁') (fun _ _ => False) s₁) (fun _ _ => False) s) :
    codeAny (model prog w) A (.compStart (.ListComp elt [⟨target, iter, ifs, 0⟩] scope pos) 0 it acc env) R s := by
  have loop : ∀ n s, I n s → codeAny (model prog w) A (.compLoop (.ListComp elt [⟨target, iter, ifs, 0⟩] scope pos) 0 it acc env) R s := by
    intro n s h
    refine codeAny_loop rfl (I := I) (fun n s hI => ?_) n h
    show wpAny _ A ((compTurn (.ListComp elt [⟨target, iter, ifs, 0⟩] scope pos) 0 it acc env).onRaise (fun x => do noteFrame x env; theTreesLotGoes x)) _ _ s
    refine wpAny_onRaise (wpAny_mono (E := fun _ _ => False) ?_ (fun _ _ q => q) fun _ _ q => q.elim)
    rw [compTurn_list]
    refine wpAny_bind (id (wpAny_standAt (wpAny_bind (id (wpAny_mono (turn n s hI) (fun r s₁ h₁ => ?_) fun _ _ h' => h')))))
    cases r with
    | none => exact wpAny_pure h₁
    | some v =>
      refine wpAny_bind (id (wpAny_mono h₁ (fun _ s₁' h₁' => ?_) fun _ _ h' => h'))
      refine wpAny_bind (id (wpAny_mono h₁' (fun _ s₂ h₂ => wpAny_bind (id (wpAny_mono h₂ (fun ok s₃ h₃ => ?_) fun _ _ h' => h'))) fun _ _ h' => h'))
      cases ok with
      | false => exact wpAny_pure ⟨rfl, h₃⟩
      | true =>
        exact wpAny_bind (wpAny_bind (wpAny_mono h₃ (fun x s₄ h₄ => wpAny_bind (id (wpAny_mono h₄ (fun _ s₅ h₅ => wpAny_pure (wpAny_pure ⟨rfl, h₅⟩)) fun _ _ h' => h'))) fun _ _ h' => h'))
  refine codeAny_of_tree ?_
  show wpAny _ _ ((compStart (.ListComp elt (⟨target, iter, ifs, 0⟩ :: []) scope pos) 0 it acc env).onRaise (fun x => do noteFrame x env; standAt theWindowsPlace)) _ _ s
  refine wpAny_onRaise (wpAny_mono (E := fun _ _ => False) ?_ (fun _ _ q => q) fun _ _ q => q.elim)
  unfold compStart
  show wpAny _ _ (ask >>= _) _ _ s
  refine wpAny_bind (id (wpAny_askSetting ?_))
  split
  · first
      | exact wpAny_bind (wpAny_pure (wpAny_pure ⟨rfl,  loop n s h⟩))
      | exact wpAny_pure ⟨rfl,  loop n s h⟩
  · first
      | exact wpAny_bind (id (wpAny_rule (wpAny_bind (id (wpAny_standAt (wpAny_bind (id (hiter n s _ h (wpAny_pure ⟨rfl,  loop n s h⟩)))))))))
      | (refine wpAny_bind (id (wpAny_rule ?_)); show wpAny _ _ (standAt iter.pos >>= _) _ _ s; exact wpAny_bind (id (wpAny_standAt (wpAny_bind (id (hiter n s _ h (wpAny_pure ⟨rfl,  loop n s h⟩)))))))
end
section
variable {prog : Program} {w : World} {A : Around} {s : Shared} {env : Env} {R : Result → Shared → Prop}
/-- the end of a comprehension's run -/
def CPostC (M : Model) (A : Around) (use : Option (Value → Sem Unit)) (Q : Value → Shared → Prop) (D C : Addr) (r : Result) (s' : Shared) : Prop :=
  match r, use with
  | .ok _, none => ∃ m, s'.heap.Ns C m ∧ ∀ h', Heap.SameBut C s'.heap h' → Q (.ref D) { s' with heap := h' }
  | .ok _, some u => wpAny M A (u (.ref D)) (fun _ s'' => ∃ m, s''.heap.Ns C m ∧ ∀ h', Heap.SameBut C s''.heap h' → Q .none { s'' with heap := h' }) (fun _ _ => False) s'
  | .error _, _ => False
theorem compC {elt target iter : Expr} {ifs : List Expr} {scope : Scope} {cl : List (Str × Addr)} {pos pos' : Pos} {use : Option (Value → Sem Unit)} {Q : Value → Shared → Prop}
    (hclos : closureFor scope env = pure cl) (hcell : ∀ y ∈ scope.names, y.2 ≠ .cell) (hkind : scope.kind = .function) (hnames : ∀ x ∈ scope.names, x.2 = .local → scope.names.lookup x.1 = some .local)
    (h : wpAny (model prog w) A (eval iter env) (fun x s₁ => wpAny (model prog w) A (pyIter x) (fun it s₂ =>
      ∀ h₄, h₄.get? s₂.heap.objs.size = some { cls := .type "list", data := .seq #[] } → h₄.Ns (s₂.heap.objs.size + 1) (fun _ => none) → (∀ b o, s₂.heap.get? b = some o → h₄.get? b = some o) → h₄.objs.size = s₂.heap.objs.size + 2 →
        codeC (model prog w) A (.compStart (.ListComp elt [⟨target, iter, ifs, 0⟩] scope pos) 0 it (.ref s₂.heap.objs.size) (compEnvC scope cl (s₂.heap.objs.size + 1) env))
          (CPostC (model prog w) A use Q s₂.heap.objs.size (s₂.heap.objs.size + 1)) { s₂ with heap := h₄ }) (fun _ _ => False) s₁) (fun _ _ => False) s)
    (hs : ∀ x, foldedSetIterable iter env x = pure x := by intro _; rfl) :
    wpC (model prog w) A (comprehension (.ListComp elt [⟨target, iter, ifs, 0⟩] scope pos) scope env pos' (newList []) false (eval iter env) use) Q (fun _ _ => False) s := by
  unfold comprehension
  rw [hclos]
  refine wpC_bind (wpC_of (wpAny_mono h (fun x s₁ h₁ => wpC_bind (wpC_of (wpAny_standAt (wpC_bind ?_)))) fun _ _ x => x))
  show wpC _ _ (foldedSetIterable iter env x) _ _ s₁
  rw [hs x]
  refine wpC_pure (wpC_bind (wpC_holding (wpC_of (wpAny_mono h₁ (fun it s₂ h₂ => ?_) fun _ _ x => x))))
  have hif : ∀ {c : Prop} [Decidable c] {p : Pos} {k : PUnit → Sem Value} {s : Shared} {Q : Value → Shared → Prop}, wpC (model prog w) A (k ⟨⟩) Q (fun _ _ => False) s → wpC (model prog w) A (if c then (standAt p >>= k) else k ⟨⟩) Q (fun _ _ => False) s := by
    intro c _ p k s Q hk
    split
    · exact wpC_bind (wpC_standAt hk)
    · exact hk
  refine hif (wpC_bind (wpC_of (wpAny_newObj_type (hd := by size_fits) ?_)))
  refine wpC_bind (wpC_pure (wpC_bind (wpC_of (wpAny_newFunctionEnv hcell (by intro y hy; simp at hy) (fun h₄ hns hsb => ?_) hkind))))
  dsimp only
  have e1 : ((s₂.heap.push { cls := .type "list", data := .seq ([] : List Value).toArray }).objs.size) = s₂.heap.objs.size + 1 := Heap.size_push _ _
  have hk4 : ∀ b o, s₂.heap.get? b = some o → h₄.get? b = some o := fun b o e => hsb.extBut b o (Nat.ne_of_lt (by show b < _; rw [e1]; exact Nat.lt_succ_of_lt (Heap.lt_size e))) (Heap.get?_push_of_some _ (Heap.get?_push_of_some _ e))
  have hD : h₄.get? s₂.heap.objs.size = some { cls := .type "list", data := .seq #[] } := hsb.extBut _ _ (Nat.ne_of_lt (by show _ < _; rw [e1]; exact Nat.lt_succ_self _)) (Heap.get?_push_of_some _ (Heap.get?_push_size _ rfl))
  have hsz : h₄.objs.size = s₂.heap.objs.size + 2 := by rw [hsb.1, Heap.size_push, e1]
  dsimp only at hns hsb
  rw [e1] at hns
  have main := h₂ h₄ hD hns hk4 hsz
  generalize hCC : s₂.heap.objs.size + 1 = CC at *
  have hv : ∀ x ∈ (scope.names.filter fun x => (x.2 == .local || x.2 == .cell) && x.1 != (".0" : Str)).reverse, x.2 = .local →
      Env.kindOf (compEnvC scope cl CC env) x.1 = some .local := fun x hx hl => lookup_relabel_local (hnames x (List.mem_filter.mp (List.mem_reverse.mp hx)).1 hl)
  have hv' : ∀ x ∈ (scope.names.filter fun x => (x.2 == .local || x.2 == .cell) && x.1 != (".0" : Str)).reverse.drop 1 ++ (scope.names.filter fun x => (x.2 == .local || x.2 == .cell) && x.1 != (".0" : Str)).reverse.take 1,
      x.2 = .local → Env.kindOf (compEnvC scope cl CC env) x.1 = some .local := fun x hx hl => by
    rcases List.mem_append.mp hx with h1 | h1
    · exact hv x (List.mem_of_mem_drop h1) hl
    · exact hv x (List.mem_of_mem_take h1) hl
  refine wpC_holding (wpC_bind (wpC_attempt (wpC_holding (wpC_run rfl (codeC_mono (R := CPostC (model prog w) A use Q s₂.heap.objs.size CC) ?_ fun r s' hr => ?_)))))
  · simp only [e1]
    exact main
  cases r with
  | ok f =>
    cases use with
    | none =>
      obtain ⟨m, hn, hr⟩ := hr
      refine wpC_bind (wpC_holding (wpC_of ?_))
      simp only [e1]
      exact wpAny_comp_letGo (cenv := compEnvC scope cl CC env) hkind _ s' m hv hn fun h' m' _ hs' => wpC_pure (hr h' hs')
    | some u =>
      refine wpC_bind (wpC_of (wpAny_rule (wpC_bind (wpC_holding (wpC_of (wpAny_mono hr (fun _ s'' hr' => ?_) fun _ _ h' => h'))))))
      obtain ⟨m, hn, hr'⟩ := hr'
      refine wpC_bind (wpC_of ?_)
      simp only [e1]
      exact wpAny_comp_letGo (cenv := compEnvC scope cl CC env) hkind _ s'' m hv' hn fun h' m' _ hs' => wpC_pure (hr' h' hs')
  | error x => cases use <;> exact hr.elim
theorem loopC {elt target iter : Expr} {ifs : List Expr} {scope : Scope} {pos : Pos} {it acc : Value} (I : Nat → Shared → Prop) (n : Nat) (h : I n s)
    (hiter : ∀ (n : Nat) (s : Shared) (Q : Value → Shared → Prop), I n s → Q it s → wpAny (model prog w) A (pyIter it) Q (fun _ _ => False) s)
    (turn : ∀ n s, I n s → wpAny (model prog w) A (pyNext it) (fun r s₁ => match r with
      | none => R (.ok .next) s₁
      | some v => wpAny (model prog w) A (letOwnedTupleGo target it v) (fun _ s₁' => wpAny (model prog w) A (assign target env v) (fun _ s₂ =>
          wpAny (model prog w) A (forIn ifs true fun c r => if r = true then do let ok ← isTrue c env (eval c env); pure (ForInStep.yield ok) else pure (ForInStep.yield r)) (fun ok s₃ =>
            if ok = true then wpC (model prog w) A (eval elt env) (fun x s₄ =>
              wpAny (model prog w) A (call (.builtin "list.append") [acc, x]) (fun _ s₅ => Less I n s₅) (fun _ _ => False) s₄) (fun _ _ => False) s₃
            else Less I n s₃) (fun _ _ => False) s₂) (fun _ _ => False) s₁') (fun _ _ => False) s₁) (fun _ _ => False) s) :
    codeC (model prog w) A (.compStart (.ListComp elt [⟨target, iter, ifs, 0⟩] scope pos) 0 it acc env) R s := by
  have loop : ∀ n s, I n s → codeC (model prog w) A (.compLoop (.ListComp elt [⟨target, iter, ifs, 0⟩] scope pos) 0 it acc env) R s := by
    intro n s h
    refine codeC_loop rfl rfl (I := I) (fun n s hI => ?_) n h
    show wpC _ A ((compTurn (.ListComp elt [⟨target, iter, ifs, 0⟩] scope pos) 0 it acc env).onRaise (fun x => do noteFrame x env; theTreesLotGoes x)) _ _ s
    refine wpC_onRaise (wpC_mono (E := fun _ _ => False) ?_ (fun _ _ q => q) fun _ _ q => q.elim)
    rw [compTurn_list]
    refine wpC_bind (wpC_of (wpAny_standAt (wpC_bind (wpC_of (wpAny_mono (turn n s hI) (fun r s₁ h₁ => ?_) fun _ _ h' => h')))))
    cases r with
    | none => exact wpC_pure h₁
    | some v =>
      refine wpC_bind (wpC_of (wpAny_mono h₁ (fun _ s₁' h₁' => ?_) fun _ _ h' => h'))
      refine wpC_bind (wpC_of (wpAny_mono h₁' (fun _ s₂ h₂ => wpC_bind (wpC_of (wpAny_mono h₂ (fun ok s₃ h₃ => ?_) fun _ _ h' => h'))) fun _ _ h' => h'))
      cases ok with
      | false => exact wpC_pure ⟨rfl, h₃⟩
      | true =>
        exact wpC_bind (wpC_bind (wpC_mono h₃ (fun x s₄ h₄ => wpC_bind (wpC_of (wpAny_mono h₄ (fun _ s₅ h₅ => wpC_pure (wpC_pure ⟨rfl, h₅⟩)) fun _ _ h' => h'))) fun _ _ h' => h'))
  refine codeC_of_tree ?_
  show wpC _ _ ((compStart (.ListComp elt (⟨target, iter, ifs, 0⟩ :: []) scope pos) 0 it acc env).onRaise (fun x => do noteFrame x env; standAt theWindowsPlace)) _ _ s
  refine wpC_onRaise (wpC_mono (E := fun _ _ => False) ?_ (fun _ _ q => q) fun _ _ q => q.elim)
  unfold compStart
  show wpC _ _ (ask >>= _) _ _ s
  refine wpC_bind (wpC_of (wpAny_askSetting ?_))
  split
  · first
      | exact wpC_bind (wpC_pure (wpC_pure ⟨rfl, rfl, loop n s h⟩))
      | exact wpC_pure ⟨rfl, rfl, loop n s h⟩
  · first
      | exact wpC_bind (wpC_of (wpAny_rule (wpC_bind (wpC_of (wpAny_standAt (wpC_bind (wpC_of (hiter n s _ h (wpC_pure ⟨rfl, rfl, loop n s h⟩)))))))))
      | (refine wpC_bind (wpC_of (wpAny_rule ?_)); show wpC _ _ (standAt iter.pos >>= _) _ _ s; exact wpC_bind (wpC_of (wpAny_standAt (wpC_bind (wpC_of (hiter n s _ h (wpC_pure ⟨rfl, rfl, loop n s h⟩)))))))
end
end Mine
end

section
/- part Zp -/
open PySem PySem.W PyProof.Rows PySem.Calls
set_option maxRecDepth 100000
set_option maxHeartbeats 8000000
namespace Mine
open KBw
section
variable {prog : Program} {w : World} {A : Around} {E : Value → Shared → Prop} {s : Shared}
theorem nb_item {it : Addr} {b : Array UInt8} {t : Tok} {i : Nat} {c : UInt8} {Q : Value → Shared → Prop} (hit : IsBytesIter s.heap it b t i) (hx : b[i]? = some c)
    (hQ : ∀ h' u k, IsBytesIter h' it b t (i + 1) → Heap.SameBut it s.heap h' → Q (.int (c.toNat : Int) u) { s with heap := h', toks := k }) : wpAny (model prog w) A (Builtin.SmallTypes.nextOf (.ref it)) Q E s := by
  obtain ⟨o, ho, hc, hd⟩ := id hit
  unfold Builtin.SmallTypes.nextOf
  refine wpAny_bind (wpAny_callSpecial?_slot (name := PySem.Str.ofString "__next__") (iter_typeIs hit) slot_next
    (wpAny_call_entry slot_next (iter_typeIs hit) entry_next ?_ (args_next _)))
  show wpAny _ _ (field (.ref it) 0 >>= _) _ _ s
  refine wpAny_bind (wpAny_field ho hd (x := .bytes b t) rfl ?_)
  show wpAny _ _ (if (Value.bytes b t == Value.none) = true then _ else _) _ _ s
  rw [if_neg (show ¬ ((Value.bytes b t == Value.none) = true) from Bool.false_ne_true)]
  show wpAny _ _ (field (.ref it) 1 >>= _) _ _ s
  refine wpAny_bind (wpAny_field ho hd (x := .int i 0) rfl ?_)
  refine wpAny_bind (wpAny_of_eq (a := b) rfl ?_)
  simp only [Int.toNat_natCast, hx]
  refine wpAny_bind (wpAny_setField ho hd (by simp) (wpAny_bind (wpAny_mkInt (wpAny_pure ⟨_, rfl, wpAny_pure (hQ _ _ _ ?_ (Heap.SameBut.update ..))⟩))))
  exact ⟨_, Heap.get?_update_self _ ho (Obj.isFreed_of_fields (Obj.data_mapFields hd _)), (Obj.cls_mapFields ..).trans hc, by
    rw [Obj.data_mapFields hd]; simp [rawInt]⟩
theorem nb_end {it : Addr} {b : Array UInt8} {t : Tok} {i : Nat} {Q : Value → Shared → Prop} (hh : A.handled = none) (hit : IsBytesIter s.heap it b t i) (hx : b[i]? = none)
    (hE : ∀ h' e, Heap.ExtBut it s.heap h' → (∃ o, h'.get? e = some o ∧ o.cls = .type "StopIteration") → E (.ref e) { s with heap := h' }) : wpAny (model prog w) A (Builtin.SmallTypes.nextOf (.ref it)) Q E s := by
  obtain ⟨o, ho, hc, hd⟩ := id hit
  unfold Builtin.SmallTypes.nextOf
  refine wpAny_bind (wpAny_callSpecial?_slot (name := PySem.Str.ofString "__next__") (iter_typeIs hit) slot_next
    (wpAny_call_entry slot_next (iter_typeIs hit) entry_next ?_ (args_next _)))
  show wpAny _ _ (field (.ref it) 0 >>= _) _ _ s
  refine wpAny_bind (wpAny_field ho hd (x := .bytes b t) rfl ?_)
  show wpAny _ _ (if (Value.bytes b t == Value.none) = true then _ else _) _ _ s
  rw [if_neg (show ¬ ((Value.bytes b t == Value.none) = true) from Bool.false_ne_true)]
  show wpAny _ _ (field (.ref it) 1 >>= _) _ _ s
  refine wpAny_bind (wpAny_field ho hd (x := .int i 0) rfl ?_)
  refine wpAny_bind (wpAny_of_eq (a := b) rfl ?_)
  simp only [Int.toNat_natCast, hx]
  refine wpAny_bind (wpAny_rule (wpAny_bind (wpAny_setField ho hd (by simp) ?_)))
  show wpAny _ _ (newExc (.type "StopIteration") [] >>= _) _ _ _
  refine wpAny_bind ?_
  simp only [newExc, newTuple]
  refine wpAny_bind (wpAny_newObj_type ?_ (by size_fits))
  refine wpAny_bind (m := firstArgMember _ _) (wpAny_of_eq (a := Value.none) (by first | rfl | (simp only [firstArgMember]; rfl)) ?_)
  refine wpAny_newObj_type ?_ (by size_fits)
  simp only [raiseNew]
  refine wpAny_bind (wpAny_handled ?_)
  first | rw [show A.in1.handled = none from hh] | rw [hh]
  refine wpAny_bind (wpAny_pure (wpAny_throw ?_))
  exact hE _ _ (((Heap.SameBut.update ..).extBut.push _).push _) ⟨_, Heap.get?_push_size _ rfl, rfl⟩
theorem itAt {h h' : Heap} {a : Addr} {b : Array UInt8} {t : Tok} {i : Nat} (x : IsBytesIter h a b t i) (k : ∀ o, h.get? a = some o → h'.get? a = some o) : IsBytesIter h' a b t i := by
  obtain ⟨o, ho, r⟩ := x
  exact ⟨o, k o ho, r⟩
/-- five addresses, no two alike -/
structure Apart5 (z TI TO i1 i2 : Addr) : Prop where
  TIz : TI ≠ z
  TOz : TO ≠ z
  i1z : i1 ≠ z
  i2z : i2 ≠ z
  TITO : TI ≠ TO
  TIi1 : TI ≠ i1
  TIi2 : TI ≠ i2
  TOi1 : TO ≠ i1
  TOi2 : TO ≠ i2
  i12 : i1 ≠ i2
theorem zb_item {z TI TO i1 i2 : Addr} {k : Nat} {bx bY : Array UInt8} {tx ty : Tok} {x y : UInt8} {a b : Value} {Q : Value → Shared → Prop} (D : Apart5 z TI TO i1 i2)
    (hz : IsZip s.heap z TI TO .none) (hTI : IsPair s.heap TI (.ref i1) (.ref i2)) (hTO : IsPair s.heap TO a b)
    (h1 : IsBytesIter s.heap i1 bx tx k) (h2 : IsBytesIter s.heap i2 bY ty k) (hx : bx[k]? = some x) (hy : bY[k]? = some y)
    (hQ : ∀ h' u v tk, IsZip h' z TI TO (rawInt s.heap.objs.size) → (∃ a b, IsPair h' TO a b) → IsBytesIter h' i1 bx tx (k + 1) → IsBytesIter h' i2 bY ty (k + 1) → IsPair h' s.heap.objs.size (.int (x.toNat : Int) u) (.int (y.toNat : Int) v) →
      (∀ c o, c ≠ z → c ≠ TO → c ≠ i1 → c ≠ i2 → s.heap.get? c = some o → h'.get? c = some o) → Q (.ref s.heap.objs.size) { s with heap := h', toks := tk }) :
    wpAny (model prog w) A (Builtin.«zip.__next__» ⟨[.ref z], []⟩) (fun fin s' => ∃ v, fin = .done (.ret v) ∧ Q v s') E s := by
  show wpAny _ _ (field (.ref z) 2 >>= _) _ _ _
  refine wpAny_bind (wpAny_field hz rfl (x := .bool false) rfl ?_)
  show wpAny _ _ (field (.ref z) 3 >>= _) _ _ _
  refine wpAny_bind (wpAny_field hz rfl (x := .ref TI) rfl ?_)
  refine wpAny_bind (wpAny_seqItems hTI rfl ?_)
  show wpAny _ _ (Builtin.SmallTypes.ownedTupleIsFree (.ref z) >>= _) _ _ _
  refine wpAny_bind ?_
  unfold Builtin.SmallTypes.ownedTupleIsFree
  refine wpAny_bind (wpAny_field hz rfl (x := .none) rfl (wpAny_pure ?_))
  simp only [if_true]
  refine wpAny_bind (wpAny_rule ?_)
  refine wpAny_bind (wpAny_field hz rfl (x := .ref TO) rfl ?_)
  refine wpAny_bind (wpAny_setField_rec hz (by simp) fun h₁ hz₁ hs₁ => ?_)
  replace hz₁ : IsZip h₁ z TI TO .ellipsis := hz₁
  refine wpAny_bind ?_
  simp only [List.zipIdx_cons, List.zipIdx_nil, List.forIn_cons, List.forIn_nil]
  refine wpAny_bind (wpAny_bind (wpAny_onRaise ?_))
  show wpAny _ _ (Builtin.SmallTypes.nextOf (.ref i1) >>= _) _ _ _
  refine wpAny_bind (nb_item (itAt h1 fun o e => hs₁.extBut _ _ D.i1z e) hx fun h₂ u k₂ h1₂ hs₂ => wpAny_pure ?_)
  have hTO₂ : IsPair h₂ TO a b := hs₂.extBut _ _ D.TOi1 (hs₁.extBut _ _ D.TOz hTO)
  refine wpAny_bind (wpAny_seqItems hTO₂ rfl ?_)
  refine wpAny_bind (wpAny_updateSeq_pair hTO₂ fun h₃ hTO₃ hs₃ => ?_)
  replace hTO₃ : IsPair h₃ TO (.int (x.toNat : Int) u) b := hTO₃
  refine wpAny_bind (wpAny_letGo (wpAny_pure ?_))
  refine wpAny_bind (wpAny_bind (wpAny_onRaise ?_))
  show wpAny _ _ (Builtin.SmallTypes.nextOf (.ref i2) >>= _) _ _ _
  refine wpAny_bind (nb_item (itAt h2 fun o e => hs₃.extBut _ _ D.TOi2.symm (hs₂.extBut _ _ D.i12.symm (hs₁.extBut _ _ D.i2z e))) hy fun h₄ v k₄ h2₄ hs₄ => wpAny_pure ?_)
  have hTO₄ : IsPair h₄ TO (.int (x.toNat : Int) u) b := hs₄.extBut _ _ D.TOi2 hTO₃
  refine wpAny_bind (wpAny_seqItems hTO₄ rfl ?_)
  refine wpAny_bind (wpAny_updateSeq_pair hTO₄ fun h₅ hTO₅ hs₅ => ?_)
  replace hTO₅ : IsPair h₅ TO (.int (x.toNat : Int) u) (.int (y.toNat : Int) v) := hTO₅
  refine wpAny_bind (wpAny_letGo (wpAny_pure (wpAny_pure ?_)))
  refine wpAny_bind (wpAny_seqItems hTO₅ rfl ?_)
  refine wpAny_bind (wpAny_newTuple ?_)
  have hsz : h₅.objs.size = s.heap.objs.size := by rw [hs₅.1, hs₄.1, hs₃.1, hs₂.1, hs₁.1]
  have hz₅ : IsZip h₅ z TI TO .ellipsis := hs₅.extBut _ _ D.TOz.symm (hs₄.extBut _ _ D.i2z.symm (hs₃.extBut _ _ D.TOz.symm (hs₂.extBut _ _ D.i1z.symm hz₁)))
  have hk₅ : ∀ c o, c ≠ z → c ≠ TO → c ≠ i1 → c ≠ i2 → s.heap.get? c = some o → h₅.get? c = some o := fun c o c1 c2 c3 c4 e =>
    hs₅.extBut _ _ c2 (hs₄.extBut _ _ c4 (hs₃.extBut _ _ c2 (hs₂.extBut _ _ c3 (hs₁.extBut _ _ c1 e))))
  have h1₅ : IsBytesIter h₅ i1 bx tx (k + 1) := itAt h1₂ fun o e => hs₅.extBut _ _ D.TOi1.symm (hs₄.extBut _ _ D.i12 (hs₃.extBut _ _ D.TOi1.symm e))
  have h2₅ : IsBytesIter h₅ i2 bY ty (k + 1) := itAt h2₄ fun o e => hs₅.extBut _ _ D.TOi2.symm e
  have hzlt : z < h₅.objs.size := Heap.lt_size hz₅
  show wpAny _ _ (Builtin.SmallTypes.ownedTupleHandOut (.ref z) (.ref h₅.objs.size) >>= _) _ _ _
  refine wpAny_bind ?_
  unfold Builtin.SmallTypes.ownedTupleHandOut
  have hz₆ : IsZip (h₅.push { cls := .type "tuple", data := .seq #[.int (x.toNat : Int) u, .int (y.toNat : Int) v] }) z TI TO .ellipsis := Heap.get?_push_of_some _ hz₅
  refine wpAny_bind (wpAny_setField_rec hz₆ (by simp) fun h₇ hz₇ hs₇ => ?_)
  replace hz₇ : IsZip h₇ z TI TO (rawInt h₅.objs.size) := hz₇
  refine wpAny_setField_rec hz₇ (by simp) fun h₈ hz₈ hs₈ => ?_
  replace hz₈ : IsZip h₈ z TI TO (rawInt h₅.objs.size) := hz₈
  have up : ∀ c o, c ≠ z → h₅.get? c = some o → h₈.get? c = some o := fun c o c1 e => hs₈.extBut _ _ c1 (hs₇.extBut _ _ c1 (Heap.get?_push_of_some _ e))
  have hT₈ : IsPair h₈ h₅.objs.size (.int (x.toNat : Int) u) (.int (y.toNat : Int) v) := hs₈.extBut _ _ (Nat.ne_of_gt hzlt) (hs₇.extBut _ _ (Nat.ne_of_gt hzlt) (Heap.get?_push_size _ rfl))
  rw [hsz] at hz₈ hT₈
  refine wpAny_pure ⟨_, rfl, ?_⟩
  show Q (.ref h₅.objs.size) _
  rw [hsz]
  exact hQ h₈ u v _ hz₈ ⟨_, _, up _ _ D.TOz hTO₅⟩ (itAt h1₅ fun o e => up _ o D.i1z e) (itAt h2₅ fun o e => up _ o D.i2z e) hT₈ fun c o c1 c2 c3 c4 e => up c o c1 (hk₅ c o c1 c2 c3 c4 e)
theorem zb_end {z TI TO i1 i2 : Addr} {k : Nat} {bx : Array UInt8} {tx : Tok} {Q : Fin → Shared → Prop} (hh : A.handled = none) (D : Apart5 z TI TO i1 i2)
    (hz : IsZip s.heap z TI TO .none) (hTI : IsPair s.heap TI (.ref i1) (.ref i2))
    (h1 : IsBytesIter s.heap i1 bx tx k) (hx : bx[k]? = none)
    (hE : ∀ h' e, (∀ c o, c ≠ z → c ≠ TO → c ≠ i1 → c ≠ i2 → s.heap.get? c = some o → h'.get? c = some o) → (∃ o, h'.get? e = some o ∧ o.cls = .type "StopIteration") → E (.ref e) { s with heap := h' }) :
    wpAny (model prog w) A (Builtin.«zip.__next__» ⟨[.ref z], []⟩) Q E s := by
  show wpAny _ _ (field (.ref z) 2 >>= _) _ _ _
  refine wpAny_bind (wpAny_field hz rfl (x := .bool false) rfl ?_)
  show wpAny _ _ (field (.ref z) 3 >>= _) _ _ _
  refine wpAny_bind (wpAny_field hz rfl (x := .ref TI) rfl ?_)
  refine wpAny_bind (wpAny_seqItems hTI rfl ?_)
  show wpAny _ _ (Builtin.SmallTypes.ownedTupleIsFree (.ref z) >>= _) _ _ _
  refine wpAny_bind ?_
  unfold Builtin.SmallTypes.ownedTupleIsFree
  refine wpAny_bind (wpAny_field hz rfl (x := .none) rfl (wpAny_pure ?_))
  simp only [if_true]
  refine wpAny_bind (wpAny_rule ?_)
  refine wpAny_bind (wpAny_field hz rfl (x := .ref TO) rfl ?_)
  refine wpAny_bind (wpAny_setField_rec hz (by simp) fun h₁ hz₁ hs₁ => ?_)
  replace hz₁ : IsZip h₁ z TI TO .ellipsis := hz₁
  refine wpAny_bind ?_
  simp only [List.zipIdx_cons, List.zipIdx_nil, List.forIn_cons, List.forIn_nil]
  refine wpAny_bind (wpAny_bind (wpAny_onRaise ?_))
  show wpAny _ _ (Builtin.SmallTypes.nextOf (.ref i1) >>= _) _ _ _
  refine wpAny_bind (nb_end hh (itAt h1 fun o e => hs₁.extBut _ _ D.i1z e) hx fun h₂ e hs₂ he => ?_)
  obtain ⟨oe, hoe, hce⟩ := he
  have hz₂ : IsZip h₂ z TI TO .ellipsis := hs₂ _ _ D.i1z.symm hz₁
  have hez : e ≠ z := fun x => by subst x; rw [hz₂] at hoe; cases hoe; simp at hce
  refine wpAny_setField_rec hz₂ (by simp) fun h₃ _ hs₃ => hE h₃ e (fun c o c1 _ c3 _ x => hs₃.extBut _ _ c1 (hs₂ _ _ c3 (hs₁.extBut _ _ c1 x))) ⟨oe, hs₃.extBut _ _ hez hoe, hce⟩
theorem zipB (hh : A.handled = none) (z TI TO i1 i2 : Addr) (D : Apart5 z TI TO i1 i2) (bx bY : Array UInt8) (tx ty : Tok) (hs : bY.size = bx.size) :
    WalksT prog w A z [z, TI, TO, i1, i2] [z, TO, i1, i2] bx.size
      (fun i vals => ∃ x y u v, bx[i]? = some x ∧ bY[i]? = some y ∧ vals = #[.int (x.toNat : Int) u, .int (y.toNat : Int) v])
      (fun i h => IsZip h z TI TO .none ∧ IsPair h TI (.ref i1) (.ref i2) ∧ (∃ a b, IsPair h TO a b) ∧ IsBytesIter h i1 bx tx i ∧ IsBytesIter h i2 bY ty i)
      (fun i T h => IsZip h z TI TO (rawInt T) ∧ IsPair h TI (.ref i1) (.ref i2) ∧ (∃ a b, IsPair h TO a b) ∧ IsBytesIter h i1 bx tx (i + 1) ∧ IsBytesIter h i2 bY ty (i + 1) ∧
        T ≠ z ∧ T ≠ TO ∧ T ≠ i1 ∧ T ≠ i2) where
  sub := fun c hc => by simp at hc ⊢; rcases hc with rfl | rfl | rfl | rfl <;> simp
  frame := fun i h h' hst hk => by
    obtain ⟨hz, hTI, ⟨a, b, hTO⟩, h1, h2⟩ := hst
    exact ⟨hk z (by simp) _ hz, hk TI (by simp) _ hTI, ⟨a, b, hk TO (by simp) _ hTO⟩, itAt h1 fun o e => hk i1 (by simp) o e, itAt h2 fun o e => hk i2 (by simp) o e⟩
  item := fun i s Q E hi hst hQ => by
    obtain ⟨hz, hTI, ⟨a, b, hTO⟩, h1, h2⟩ := hst
    have hiy : i < bY.size := hs ▸ hi
    have hT : s.TypeIs (.ref z) "zip" := ⟨_, hz, rfl⟩
    unfold pyNext
    refine wpAny_bind (wpAny_attempt (wpAny_callSpecial?_slot (name := Str.ofString "__next__") hT F.slot_zip_next
      (wpAny_call_entry F.slot_zip_next hT F.entry_zip_next
        (zb_item D hz hTI hTO h1 h2 (Array.getElem?_eq_getElem hi) (Array.getElem?_eq_getElem hiy) fun h' u v tk a1 a2 a3 a4 a5 hk => wpAny_pure ?_) (F.args_zip_next_1 _))))
    have lt : ∀ {c o}, s.heap.get? c = some o → s.heap.objs.size ≠ c := fun e => Nat.ne_of_gt (Heap.lt_size e)
    exact hQ s.heap.objs.size _ h' tk ⟨_, _, _, _, Array.getElem?_eq_getElem hi, Array.getElem?_eq_getElem hiy, rfl⟩ (Nat.le_refl _) ⟨_, a5, rfl, _, rfl⟩
      ⟨a1, hk _ _ D.TIz D.TITO D.TIi1 D.TIi2 hTI, a2, a3, a4, lt hz, lt hTO, (by obtain ⟨_, e, _⟩ := h1; exact lt e), (by obtain ⟨_, e, _⟩ := h2; exact lt e)⟩
      fun c o hc e => hk c o (fun x => hc (by simp [x])) (fun x => hc (by simp [x])) (fun x => hc (by simp [x])) (fun x => hc (by simp [x])) e
  go := fun elts k pos i T s Q E hm hQ => by
    obtain ⟨hz, hTI, ⟨a, b, hTO⟩, h1, h2, _⟩ := hm
    refine wpAny_letOwnedTupleGo_zip hz fun h' hz' hs' => hQ h' ⟨hz', hs'.extBut _ _ D.TIz hTI, ⟨a, b, hs'.extBut _ _ D.TOz hTO⟩, itAt h1 fun o e => hs'.extBut _ _ D.i1z e, itAt h2 fun o e => hs'.extBut _ _ D.i2z e⟩ fun c o hc e => hs'.extBut _ _ (fun x => hc (by simp [x])) e
  apart := fun i T h hm hT => by
    obtain ⟨_, _, _, _, _, t1, t2, t3, t4⟩ := hm
    simp at hT
    rcases hT with rfl | rfl | rfl | rfl
    · exact t1 rfl
    · exact t2 rfl
    · exact t3 rfl
    · exact t4 rfl
  done := fun s Q E hst hQ => by
    obtain ⟨hz, hTI, ⟨a, b, hTO⟩, h1, h2⟩ := hst
    have hT : s.TypeIs (.ref z) "zip" := ⟨_, hz, rfl⟩
    unfold pyNext
    refine wpAny_bind (wpAny_attempt (wpAny_callSpecial?_slot (name := Str.ofString "__next__") hT F.slot_zip_next
      (wpAny_call_entry F.slot_zip_next hT F.entry_zip_next (zb_end (TO := TO) hh D hz hTI h1 (Array.getElem?_eq_none (Nat.le_refl _)) fun h' e hk he => ?_) (F.args_zip_next_1 _))))
    obtain ⟨o, ho, hc⟩ := he
    refine wpAny_bind (wpAny_isInstance (T := "StopIteration") (b := true) ⟨o, ho, hc⟩ isSubtype_stop ?_)
    exact wpAny_pure (hQ h' s.toks fun c o hc e => hk c o (fun x => hc (by simp [x])) (fun x => hc (by simp [x])) (fun x => hc (by simp [x])) (fun x => hc (by simp [x])) e)
  self := fun i s Q E hst hQ => wpAny_pyIter_zip hst.1 hQ
end
abbrev zbH1 (h : Heap) (x : Array UInt8) (tx : Tok) : Heap := h.push { cls := .type "bytes_iterator", data := .fields #[.bytes x tx, .int 0 0] }
abbrev zbH2 (h : Heap) (x y : Array UInt8) (tx ty : Tok) : Heap := (zbH1 h x tx).push { cls := .type "bytes_iterator", data := .fields #[.bytes y ty, .int 0 0] }
abbrev zbH3 (h : Heap) (x y : Array UInt8) (tx ty : Tok) : Heap := (zbH2 h x y tx ty).push { cls := .type "tuple", data := .seq #[.ref h.objs.size, .ref (zbH1 h x tx).objs.size] }
abbrev zbH4 (h : Heap) (x y : Array UInt8) (tx ty : Tok) : Heap := (zbH3 h x y tx ty).push { cls := .type "tuple", data := .seq #[.none, .none] }
abbrev zbH5 (h : Heap) (x y : Array UInt8) (tx ty : Tok) : Heap := (zbH4 h x y tx ty).push { cls := .type "zip", data := .fields #[.none, .bool false, .bool false, .ref (zbH2 h x y tx ty).objs.size, .ref (zbH3 h x y tx ty).objs.size] }
theorem meets_zb (x y : Array UInt8) (tx ty : Tok) :
    Meets (Builtin.«zip.__new__» ⟨[.type "zip", .bytes x tx, .bytes y ty], []⟩) (fun _ R s =>
      R (.ok (.ret (.ref (zbH4 s.heap x y tx ty).objs.size))) { s with heap := zbH5 s.heap x y tx ty }) :=
  .of_wp fun prog w A R s h => by
    obtain ⟨hp, g, d, tk, os⟩ := s
    have hsub := sub_zip
    wp_walk using pyIter_bytes, pyIter_bytes
    exact ⟨_, rfl, h⟩
section
variable {prog : Program} {w : World} {A : Around} {E : Value → Shared → Prop} {s : Shared}
theorem call_zb {x y : Array UInt8} {tx ty : Tok} {Q : Value → Shared → Prop}
    (h : ∀ h', IsZip h' (s.heap.objs.size + 4) (s.heap.objs.size + 2) (s.heap.objs.size + 3) .none → IsPair h' (s.heap.objs.size + 2) (.ref s.heap.objs.size) (.ref (s.heap.objs.size + 1)) →
      IsPair h' (s.heap.objs.size + 3) .none .none → IsBytesIter h' s.heap.objs.size x tx 0 → IsBytesIter h' (s.heap.objs.size + 1) y ty 0 → h'.objs.size = s.heap.objs.size + 5 →
      (∀ c o, s.heap.get? c = some o → h'.get? c = some o) → Q (.ref (s.heap.objs.size + 4)) { s with heap := h' }) :
    wpAny (model prog w) A (call (.type "zip") [.bytes x tx, .bytes y ty]) Q E s := by
  refine callType_new F.called_zip (by decide) (F.typeCall_zip_2 _ _) (F.newCall_zip_2 _ _) (fun obj => F.args_object_init_3 obj _ _) F.entry_zip_new
    (meets_zb x y tx ty) ?_
  have z1 : (zbH1 s.heap x tx).objs.size = s.heap.objs.size + 1 := Heap.size_push ..
  have z2 : (zbH2 s.heap x y tx ty).objs.size = s.heap.objs.size + 2 := by rw [Heap.size_push, z1]
  have z3 : (zbH3 s.heap x y tx ty).objs.size = s.heap.objs.size + 3 := by rw [Heap.size_push, z2]
  have z4 : (zbH4 s.heap x y tx ty).objs.size = s.heap.objs.size + 4 := by rw [Heap.size_push, z3]
  have z5 : (zbH5 s.heap x y tx ty).objs.size = s.heap.objs.size + 5 := by rw [Heap.size_push, z4]
  have g5 : (zbH5 s.heap x y tx ty).get? (zbH4 s.heap x y tx ty).objs.size = some _ := Heap.get?_push_size _ rfl
  have g4 : (zbH5 s.heap x y tx ty).get? (zbH3 s.heap x y tx ty).objs.size = some _ := Heap.get?_push_of_some _ (Heap.get?_push_size _ rfl)
  have g3 : (zbH5 s.heap x y tx ty).get? (zbH2 s.heap x y tx ty).objs.size = some _ := Heap.get?_push_of_some _ (Heap.get?_push_of_some _ (Heap.get?_push_size _ rfl))
  have g2 : (zbH5 s.heap x y tx ty).get? (zbH1 s.heap x tx).objs.size = some _ := Heap.get?_push_of_some _ (Heap.get?_push_of_some _ (Heap.get?_push_of_some _ (Heap.get?_push_size _ rfl)))
  have g1 : (zbH5 s.heap x y tx ty).get? s.heap.objs.size = some _ := Heap.get?_push_of_some _ (Heap.get?_push_of_some _ (Heap.get?_push_of_some _ (Heap.get?_push_of_some _ (Heap.get?_push_size _ rfl))))
  show _ ∧ _
  rw [z2, z3, z4] at g5
  rw [z1, z2] at g3
  rw [z3] at g4
  rw [z1] at g2
  rw [z4]
  exact ⟨⟨_, g5, rfl⟩, h _ g5 g3 g4 ⟨_, g1, rfl, rfl⟩ ⟨_, g2, rfl, rfl⟩ z5 fun c o x =>
    Heap.get?_push_of_some _ (Heap.get?_push_of_some _ (Heap.get?_push_of_some _ (Heap.get?_push_of_some _ (Heap.get?_push_of_some _ x))))⟩
end
open LCg in
/-- the turns of a list comprehension over pairs -/
theorem pairLoop {prog : Program} {w : World} {A : Around} {s : Shared} {env : Env} {R : Result → Shared → Prop} {elt iter : Expr} {a b : Str} {pa pb tp : Pos} {kk : Nat} {ifs : List Expr} {scope : Scope} {pos : Pos} {I D : Addr} {fp wr : List Addr} {n : Nat} {Pt : Nat → Array Value → Prop} {St : Nat → Heap → Prop} {Mid : Nat → Addr → Heap → Prop}
    (J : Nat → List Value → Heap → Prop) (hh : A.handled = none) (W : WalksT prog w A I fp wr n Pt St Mid)
    (ha : env.kindOf a = some .local) (hb : env.kindOf b = some .local) (hp : (env.scope.kind == .class || (env.scope.kind == .module && env.locals != env.globals)) = false) (hab : a ≠ b)
    (hDf : D ∉ fp) (hCf : env.locals ∉ fp) (hCD : env.locals ≠ D) (hn : n ≤ 1000) (hJl : ∀ i ys h, J i ys h → ys.length ≤ 1000)
    (hJ : ∀ i ys h h', J i ys h → (∀ b o, b ∉ D :: env.locals :: wr → h.get? b = some o → h'.get? b = some o) → J i ys h')
    (hPt : ∀ i v, Pt i v → ∃ x y, v = #[x, y])
    (turn : ∀ i ys h tk m x y, i < n → Pt i #[x, y] → J i ys h → (∀ b o, b ∉ D :: env.locals :: wr → s.heap.get? b = some o → h.get? b = some o) → h.Ns env.locals m → m a = some x → m b = some y → (∃ o, h.get? D = some o) →
      wpAny (model prog w) A (forIn ifs true fun c r => if r = true then do let ok ← isTrue c env (eval c env); pure (ForInStep.yield ok) else pure (ForInStep.yield r)) (fun ok s₃ =>
        if ok = true then wpAny (model prog w) A (eval elt env) (fun x s₄ => ∃ h' tk', s₄ = { s with heap := h', toks := tk' } ∧ (∀ b o, h.get? b = some o → h'.get? b = some o) ∧ J (i + 1) (ys ++ [x]) h') (fun _ _ => False) s₃
        else ∃ h' tk', s₃ = { s with heap := h', toks := tk' } ∧ (∀ b o, h.get? b = some o → h'.get? b = some o) ∧ J (i + 1) ys h') (fun _ _ => False) { s with heap := h, toks := tk })
    (done : ∀ h tk ys m, J n ys h → (∀ b o, b ∉ D :: env.locals :: wr → s.heap.get? b = some o → h.get? b = some o) → h.get? D = some (lst ys) → h.Ns env.locals m → R (.ok .next) { s with heap := h, toks := tk })
    (st0 : St 0 s.heap) (j0 : J 0 [] s.heap) (d0 : s.heap.get? D = some (lst [])) {m₀ : Str → Option Value} (n0 : s.heap.Ns env.locals m₀) :
    codeAny (model prog w) A (.compStart (.ListComp elt [⟨.Tuple [.Name a pa, .Name b pb] kk tp, iter, ifs, 0⟩] scope pos) 0 (.ref I) (.ref D) env) R s := by
  have hDw : D ∉ wr := fun e => hDf (W.sub _ e)
  have hCw : env.locals ∉ wr := fun e => hCf (W.sub _ e)
  refine loopA (fun k s' => ∃ h tk i ys m, s' = { s with heap := h, toks := tk } ∧ i ≤ n ∧ k = n - i ∧ St i h ∧ J i ys h ∧ (∀ b o, b ∉ D :: env.locals :: wr → s.heap.get? b = some o → h.get? b = some o) ∧ h.get? D = some (lst ys) ∧ h.Ns env.locals m) n
    ⟨s.heap, s.toks, 0, [], m₀, rfl, Nat.zero_le _, rfl, st0, j0, fun _ _ _ e => e, d0, n0⟩ ?_ ?_
  · rintro k s' Q ⟨h, tk, i, ys, m, rfl, hi, rfl, st, _⟩ q
    exact W.self i _ _ _ st q
  · rintro k s' ⟨h, tk, i, ys, m, rfl, hi, rfl, st, j, keep, hD, hN⟩
    by_cases hlt : i < n
    · refine W.item i _ _ _ hlt st fun T vals h₁ tk₁ hv hT1 hT hM hk₁ => ?_
      obtain ⟨x, y, rfl⟩ := hPt _ _ hv
      have hTw := W.apart _ _ _ hM
      refine W.go _ _ _ i T _ _ _ hM fun h₂ st₂ hk₂ => ?_
      have hT₂ : h₂.IsTuple T #[x, y] := by
        obtain ⟨o, e, r⟩ := hT
        exact ⟨o, hk₂ _ _ hTw e, r⟩
      refine kcp_assign hh hT₂ ha hb hp (m := m) (hN.at' fun o e => hk₂ _ _ hCw (hk₁ _ _ hCw e)) fun h₃ tk₃ hN₃ hs₃ => ?_
      have up : ∀ b o, b ∉ D :: env.locals :: wr → h.get? b = some o → h₃.get? b = some o := fun b o hb e => by
        simp only [List.mem_cons, not_or] at hb
        exact hs₃ b o hb.2.1 (hk₂ _ _ hb.2.2 (hk₁ _ _ hb.2.2 e))
      have hD₃ : h₃.get? D = some (lst ys) := hs₃ _ _ (Ne.symm hCD) (hk₂ _ _ hDw (hk₁ _ _ hDw hD))
      have st₃ : St (i + 1) h₃ := W.frame _ _ _ st₂ fun b hb o e => hs₃ b o (fun q => hCf (q ▸ hb)) e
      have j₃ := hJ _ _ _ _ j up
      have keep₃ : ∀ b o, b ∉ D :: env.locals :: wr → s.heap.get? b = some o → h₃.get? b = some o := fun b o hb e => up b o hb (keep b o hb e)
      refine wpAny_mono (turn i ys h₃ tk₃ _ x y hlt hv j₃ keep₃ hN₃ ((if_neg hab).trans (if_pos rfl)) (if_pos rfl) ⟨_, hD₃⟩) (fun ok s₃ h₃' => ?_) fun _ _ e => e
      cases ok with
      | false =>
        simp only [Bool.false_eq_true, if_false] at h₃' ⊢
        obtain ⟨h₅, tk₅, rfl, hk₅, j₅⟩ := h₃'
        exact ⟨n - (i + 1), by omega, h₅, tk₅, i + 1, ys, _, rfl, hlt, rfl, W.frame _ _ _ st₃ fun b hb o e => hk₅ b o e, j₅, fun b o hb e => hk₅ b o (keep₃ b o hb e), hk₅ _ _ hD₃, hN₃.at' fun o e => hk₅ _ _ e⟩
      | true =>
        simp only [if_true] at h₃' ⊢
        refine wpAny_mono h₃' (fun v s₄ h₄' => ?_) fun _ _ e => e
        obtain ⟨h₅, tk₅, rfl, hk₅, j₅⟩ := h₄'
        have hsz : ys.toArray.size ≤ sizeLine := by
          have := hJl _ _ _ j
          rw [sizeLine_eq]; simp; omega
        refine append_at (hsz := hsz) (hk₅ _ _ hD₃) fun h₆ hs₆ hD₆ => ?_
        have up₆ : ∀ b o, b ≠ D → h₅.get? b = some o → h₆.get? b = some o := fun b o hb e => hs₆.extBut b o hb e
        refine ⟨n - (i + 1), by omega, h₆, tk₅, i + 1, ys ++ [v], _, rfl, hlt, rfl, W.frame _ _ _ st₃ fun b hb o e => up₆ b o (fun q => hDf (q ▸ hb)) (hk₅ b o e), hJ _ _ _ _ j₅ fun b o hb e => up₆ b o (fun q => hb (by simp [q])) e,
          fun b o hb e => up₆ b o (fun q => hb (by simp [q])) (hk₅ b o (keep₃ b o hb e)), hD₆.trans (congrArg some (lst_snoc ys v)), (hN₃.at' fun o e => hk₅ _ _ e).sameBut hs₆ hCD⟩
    · obtain rfl : i = n := by omega
      refine W.done _ _ _ st fun h₁ tk₁ hk₁ => ?_
      have up : ∀ b o, b ∉ D :: env.locals :: wr → h.get? b = some o → h₁.get? b = some o := fun b o hb e => by
        simp only [List.mem_cons, not_or] at hb
        exact hk₁ _ _ hb.2.2 e
      exact done h₁ tk₁ ys m (hJ _ _ _ _ j up) (fun b o hb e => up b o hb (keep b o hb e)) (hk₁ _ _ hDw hD) (hN.at' fun o e => hk₁ _ _ hCw e)
end Mine
end

section
/- part Rv -/
open PySem PySem.W PyProof.Rows PySem.Calls
set_option maxRecDepth 100000
set_option maxHeartbeats 8000000
namespace Mine
open Builtin
theorem rev_sliced (b : Array UInt8) : Bytes.sliced b ((b.size : Int) - 1) (-1) (-1) = b.reverse := by
  unfold Bytes.sliced
  rw [krv_sliceRange, krv_range, List.filterMap_reverse, krv_all]
  rw [← Array.toList_reverse]
theorem meets_rev (b : Array UInt8) (t tk : Tok) (a : Addr) :
    Meets («bytes.__getitem__» ⟨[.bytes b t, .ref a], []⟩) (fun _ R s => s.heap.IsSliceOf a .none .none (.int (-1) tk) ∧ b.size ≤ sizeLine ∧ ∀ t' k, R (.ok (.ret (.bytes b.reverse t'))) { s with toks := k }) := by
  refine .of_wp fun prog w A R s hS => ?_
  obtain ⟨⟨o, ho, hc, hd⟩, hsz, h⟩ := hS
  have hT : s.TypeIs (.ref a) "slice" := ⟨o, ho, hc⟩
  show wpAny _ _ (Bytes.payload (.bytes b t) >>= fun r => _) _ _ s
  refine wpAny_bind (wpAny_of_eq (a := b) rfl ?_)
  show wpAny _ _ (Bytes.subscript? (.ref a) >>= fun r => _) _ _ s
  refine wpAny_bind ?_
  unfold Bytes.subscript?
  refine wpAny_bind (wpAny_specialOf hT slice_no_index (wpAny_pure ?_))
  refine wpAny_bind (wpAny_typeOf hT ?_)
  show wpAny _ _ (Bytes.sliceParts (.ref a) >>= fun r => _) _ _ s
  refine wpAny_bind ?_
  unfold Bytes.sliceParts
  refine wpAny_bind (wpAny_field (x := .int (-1) tk) ho hd rfl ?_)
  kby_int
  refine wpAny_ite (KBy.ite_no (show ¬ ((rawInt (-1) == rawInt 0) = true) by decide) ?_)
  refine wpAny_bind (wpAny_field (x := .none) ho hd rfl ?_)
  kby_none
  refine wpAny_bind (wpAny_field (x := .none) ho hd rfl ?_)
  kby_none
  refine wpAny_pure ?_
  have go : wpAny (model prog w) A.in1 (sliceIndices (rawPart none) (rawPart none) (rawPart (some (-1))) b.size) (fun r s' => r = ((b.size : Int) - 1, -1, -1) ∧ s' = s) (fun _ _ => False) s :=
    wpAny_of_eq (sliceIndices_raw none none (some (-1)) b.size (by decide)) ⟨krv_bounds _, rfl⟩
  refine wpAny_bind (wpAny_mono go (fun r s' hr => ?_) fun _ _ e => e.elim)
  obtain ⟨hr1, hr2⟩ := hr
  subst hr1 hr2
  refine wpAny_ite (KBy.ite_no ?_ ?_)
  · simp
  · rw [rev_sliced]
    exact wpAny_bind (wpAny_mkBytes (wpAny_pure ⟨_, rfl, h _ _⟩) (by simpa using hsz))
theorem rev_K {prog : Program} {w : World} {A : Around} {E : Value → Shared → Prop} {s : Shared} {value slice : PySem.Expr} {b : Array UInt8} {t tk : Tok} {h₀ : Heap} {L : Addr} {m : PySem.Str → Option Value} {news : List (Addr × Obj)} {Q : Value → Shared → Prop}
    (hF : Fr h₀ L s.heap m) (hN : News h₀ L s.heap news) (hz : b.size ≤ 2 ^ 20)
    (h : ∀ h' t' k, Fr h₀ L h' m → News h₀ L h' news → Q (.bytes b.reverse t') { s with heap := h', toks := k })
    (hs : subscripted slice false (.bytes b t) (.ref s.heap.objs.size) = operate [.ref s.heap.objs.size, .bytes b t] (getItem (.bytes b t) (.ref s.heap.objs.size)) := by with_unfolding_all rfl)
    (ht : ∀ r, letTemporaryGo value (.bytes b t) r = pure () := by intro _; with_unfolding_all rfl) :
    wpAny (model prog w) A (subscriptTail value slice (.bytes b t) (.ref s.heap.objs.size)) Q E { s with heap := s.heap.push { cls := .type "slice", data := .fields #[.none, .none, .int (-1) tk] } } :=
  tail_of_ItemOn ⟨"bytes", _, FB.slot_bytes_getitem.lookup, typeIs_bytes _ _ _, getItem_meets (typeIs_bytes _ _ _) (by decide) FB.slot_bytes_getitem FB.entry_bytes_getitem (FB.args_bytes_getitem_2 _ _) (meets_rev b t tk _)
    ⟨Heap.IsSliceOf.new _ _ _ _, by rw [sizeLine_eq]; omega, fun t' k => h _ _ _ (hF.push _) (News.pushKeep hN _)⟩⟩ hs ht
end Mine
end

section
/- part Cm -/
open PySem PySem.W PyProof.Rows PySem.Calls
set_option maxRecDepth 100000
set_option maxHeartbeats 8000000
namespace Mine
theorem assignCompA {prog : Program} {w : World} {A : Around} {s : Shared} {env : Env} {elt target iter : Expr} {ifs : List Expr} {scope : Scope} {pos spos : Pos} {y : Str} {py : Pos} {Q : Flow → Shared → Prop}
    (hsw : swapsWith (.ListComp elt [⟨target, iter, ifs, 0⟩] scope pos) (some (.Name y py)) spos.line env = pure true)
    (h : wpAny (model prog w) A (comprehension (.ListComp elt [⟨target, iter, ifs, 0⟩] scope pos) scope env (firstIterPos [⟨target, iter, ifs, 0⟩] pos) (newList []) false (eval iter env) (some (assign (.Name y py) env))) (fun _ s' => Q .next s') (fun _ _ => False) s) :
    wpAny (model prog w) A (exec (.Assign [.Name y py] (.ListComp elt [⟨target, iter, ifs, 0⟩] scope pos) spos) env) Q (fun _ _ => False) s := by
  rw [exec_Assign_Name_used _ _ _ _ hsw]
  refine wpAny_bind (wpAny_standAt (wpAny_bind ?_))
  show wpAny _ A (do let _ ← comprehension (.ListComp elt [⟨target, iter, ifs, 0⟩] scope pos) scope env _ (newList []) false (eval iter env) (some (assign (.Name y py) env))) _ _ s
  exact wpAny_bind (wpAny_mono h (fun _ s' hq => wpAny_pure (wpAny_pure hq)) fun _ _ e => e)
theorem nmL {M : Model} {A : Around} {E : Value → Shared → Prop} {s : Shared} {env : Env} {x : Str} {pos : Pos} {m : Str → Option Value} {v : Value} {Q : Value → Shared → Prop} (hn : s.heap.Ns env.locals m) (hv : m x = some v) (h : Q v s)
    (hk : env.scope.kind = .function := by rfl) (hx : env.kindOf x = some .local := by rfl) (hd : (x == ("__debug__" : Str)) = false := by decide) : wpAny M A (eval (.Name x pos) env) Q E s :=
  wpAny_Name (wpAny_loadName_local hk hx hn hv h) hd
/-- the first pair of signs that are not alike -/
def diff1 (l : List (UInt8 × UInt8)) : Option (UInt8 × UInt8) := l.find? fun p => p.1 != p.2
theorem diff1_snoc (l : List (UInt8 × UInt8)) (p : UInt8 × UInt8) : diff1 (l ++ [p]) = (diff1 l).or (if p.1 != p.2 then some p else none) := by
  unfold diff1
  rw [List.find?_append]
  congr 1
  simp only [List.find?_cons, List.find?_nil]
  cases p.1 != p.2 <;> rfl
/-- what the list of unlike pairs holds -/
def DiffIs (wr : List Addr) (g : Heap) (o : Option (UInt8 × UInt8)) (ys : List Value) (h : Heap) : Prop := match o with
  | none => ys = []
  | some p => ∃ e u v k r, ys = .ref e :: r ∧ h.get? e = some { cls := .type "list", data := .seq #[.int (p.1.toNat : Int) u, .int (p.2.toNat : Int) v] k } ∧ e ∉ wr ∧ g.get? e = none
theorem DiffIs.ext {wr : List Addr} {g : Heap} {o : Option (UInt8 × UInt8)} {ys : List Value} {h h' : Heap} (x : DiffIs wr g o ys h) (k : ∀ b o, b ∉ wr → h.get? b = some o → h'.get? b = some o) : DiffIs wr g o ys h' := by
  cases o with
  | none => exact x
  | some p =>
    obtain ⟨e, u, v, n, r, h1, h2, h3, h4⟩ := x
    exact ⟨e, u, v, n, r, h1, k _ _ h3 h2, h3, h4⟩
theorem u8ne {a b : UInt8} : ((a.toNat : Int) != (b.toNat : Int)) = (a != b) := by
  have : ((a.toNat : Int) = (b.toNat : Int)) ↔ a = b := ⟨fun h => UInt8.toNat_inj.mp (by omega), fun h => by rw [h]⟩
  by_cases h : a = b
  · simp [h]
  · have h2 : ¬ ((a.toNat : Int) = (b.toNat : Int)) := fun q => h (this.mp q)
    rw [bne_iff_ne.mpr h, bne_iff_ne.mpr h2]
theorem diffTurn {w : World} {A : Around} {s : Shared} {env : Env} {m : Str → Option Value} {p0 p1 p2 p3 p4 p5 : Pos} {x y : UInt8} {u v : Tok} {Q : Value → Shared → Prop} {Q2 : Shared → Prop}
    (hn : s.heap.Ns env.locals m) (ha : m "a" = some (.int (x.toNat : Int) u)) (hb : m "b" = some (.int (y.toNat : Int) v)) (hk : env.scope.kind = .function) (h1 : env.kindOf "a" = some .local) (h2 : env.kindOf "b" = some .local)
    (yes : (x != y) = true → ∀ tk, Q (.ref s.heap.objs.size) { s with heap := s.heap.push { cls := .type "list", data := .seq #[.int (x.toNat : Int) u, .int (y.toNat : Int) v] }, toks := tk })
    (no : (x != y) = false → ∀ tk, Q2 { s with toks := tk }) :
    wpAny (model PR w) A (forIn [PySem.Expr.Compare (.Name "a" p0) [.NotEq] [.Name "b" p1] p2] true fun c r => if r = true then do let ok ← isTrue c env (eval c env); pure (ForInStep.yield ok) else pure (ForInStep.yield r)) (fun ok s₃ =>
        if ok = true then wpAny (model PR w) A (eval (.List [.Name "a" p3, .Name "b" p4] p5) env) Q (fun _ _ => False) s₃ else Q2 s₃) (fun _ _ => False) s := by
  refine wpAny_tests_one (wpAny_isTrue_Compare1 (nmL hn ha (nmL hn hb ?_ hk h2) hk h1))
  have main : ∀ tk c, c = (x != y) → (if c = true then wpAny (model PR w) A (eval (.List [.Name "a" p3, .Name "b" p4] p5) env) Q (fun _ _ => False) { s with toks := tk } else Q2 { s with toks := tk }) := by
    intro tk c hc
    cases hq : (x != y) with
    | false =>
      rw [hc, hq]
      exact no hq tk
    | true =>
      rw [hc, hq]
      refine List_ (spliced_more (nmL (s := { s with toks := tk }) hn ha (spliced_more (nmL (s := { s with toks := tk }) hn hb (spliced_none (wpAny_newList ?_)) hk h2)) hk h1))
      exact yes hq tk
  walk1
  walk1
  exact main _ _ u8ne
theorem ltN {h : Heap} {a : Nat} {o : Obj} (e : h.get? a = some o) : a < h.objs.size := Heap.lt_size e
theorem nsN {h : Heap} {a : Nat} {m : Str → Option Value} (e : h.Ns a m) : a < h.objs.size := e.lt
/-- what is known behind the statement that lists the unlike pairs -/
def DiffPost (h₀ : Heap) (L : Addr) (m : Str → Option Value) (s : Shared) (Q : Value → Shared → Prop) : Option (UInt8 × UInt8) → Prop
  | none => ∀ h' tk D, Fr h₀ L h' (fun z => if z = "differ" then some (.ref D) else m z) → News h₀ L h' [(D, { cls := .type "list", data := .seq #[] 0 })] → Q .none { s with heap := h', toks := tk }
  | some p => ∀ h' tk D e u v k r n, Fr h₀ L h' (fun z => if z = "differ" then some (.ref D) else m z) →
      News h₀ L h' [(D, { cls := .type "list", data := .seq (Value.ref e :: r).toArray n }), (e, { cls := .type "list", data := .seq #[.int (p.1.toNat : Int) u, .int (p.2.toNat : Int) v] k })] → r.length < 1000 → Q .none { s with heap := h', toks := tk }
open LCg in
theorem differ_ok {w : World} {A : Around} {s : Shared} {env : Env} {h₀ : Heap} {L : Addr} {m : Str → Option Value} {bx bY : Array UInt8} {t1 t2 : Tok} {p0 p1 p2 p3 p4 p5 p6 p7 p8 p9 py : Pos} {iter : Expr} {Q : Value → Shared → Prop} {mo : List (Str × Const)}
    (hh : A.handled = none) (F : Fr h₀ L s.heap m) (hL : env.locals = L) (hd : env.kindOf "differ" = some .local) (hp : (env.scope.kind == .class || (env.scope.kind == .module && env.locals != env.globals)) = false)
    (hsz : bY.size = bx.size) (hle : bx.size < 1000) (h : DiffPost h₀ L m s Q (diff1 (bx.toList.zip bY.toList))) :
    wpAny (model PR w) A (call (.type "zip") [.bytes bx t1, .bytes bY t2]) (fun x s₁ => wpAny (model PR w) A (pyIter x) (fun it s₂ =>
      ∀ h₄, h₄.get? s₂.heap.objs.size = some { cls := .type "list", data := .seq #[] } → h₄.Ns (s₂.heap.objs.size + 1) (fun _ => none) → (∀ b o, s₂.heap.get? b = some o → h₄.get? b = some o) → h₄.objs.size = s₂.heap.objs.size + 2 →
        codeAny (model PR w) A (.compStart (.ListComp (.List [.Name "a" p0, .Name "b" p1] p2) [⟨.Tuple [.Name "a" p3, .Name "b" p4] 0 p5, iter, [.Compare (.Name "a" p6) [.NotEq] [.Name "b" p7] p8], 0⟩] { kind := ScopeKind.function, names := [(".0", .local), ("a", .local), ("b", .local)], isGenerator := false, isCoroutine := false, more := mo } p9) 0 it (.ref s₂.heap.objs.size) (compEnvC { kind := ScopeKind.function, names := [(".0", .local), ("a", .local), ("b", .local)], isGenerator := false, isCoroutine := false, more := mo } [] (s₂.heap.objs.size + 1) env))
          (CPostA (model PR w) A (some (assign (.Name "differ" py) env)) Q s₂.heap.objs.size (s₂.heap.objs.size + 1)) { s₂ with heap := h₄ }) (fun _ _ => False) s₁) (fun _ _ => False) s := by
  refine call_zb fun h₁ hz hTI hTO i1 i2 z1 k1 => wpAny_pyIter_zip hz ?_
  intro h₄ hD hN k4 z4
  dsimp only at hD hN k4 z4 ⊢
  rw [z1] at hD hN z4 ⊢
  generalize hS : s.heap.objs.size = S at *
  have fresh : ∀ a, S ≤ a → h₀.get? a = none := fun a ha => by
    cases q : h₀.get? a with
    | none => rfl
    | some o => have := ltN (F.keep _ _ q); omega
  have hLlt : @LT.lt Nat _ L S := by have := nsN F.ns; omega
  have ap : Apart5 (S + 4) (S + 2) (S + 3) S (S + 1) := by constructor <;> exact fun q => by simp at q
  refine pairLoop (D := S + 5) (I := S + 4) (fp := [S + 4, S + 2, S + 3, S, S + 1]) (wr := [S + 4, S + 3, S, S + 1]) (fun i ys h => ys.length ≤ i ∧ i ≤ bx.size ∧ DiffIs [S + 5, S + 5 + 1, S + 4, S + 3, S, S + 1] h₀ (diff1 ((bx.toList.zip bY.toList).take i)) ys h)
    hh (zipB hh _ _ _ _ _ ap bx bY t1 t2 hsz) (by rfl) (by rfl) (by rfl) (by decide) (by simp) (by show ¬ (S + 5 + 1 ∈ [S + 4, S + 2, S + 3, S, S + 1]); simp; omega) (by show S + 5 + 1 ≠ S + 5; omega) (by omega) (fun i ys h j => by omega) (fun i ys h h' j k => ⟨j.1, j.2.1, j.2.2.ext k⟩)
    (by rintro i v ⟨x, y, u, v', _, _, rfl⟩; exact ⟨_, _, rfl⟩) ?_ ?_ ⟨k4 _ _ hz, k4 _ _ hTI, ⟨_, _, k4 _ _ hTO⟩, itAt i1 fun o e => k4 _ _ e, itAt i2 fun o e => k4 _ _ e⟩ ⟨Nat.le_refl _, Nat.zero_le _, rfl⟩ hD hN
  · rintro i ys hh tk mm a b hi ⟨x, y, u, v, hx, hy, hab⟩ ⟨j1, j2, j3⟩ keep hns ma mb ⟨oD, hoD⟩
    obtain ⟨rfl, rfl⟩ : a = .int (x.toNat : Int) u ∧ b = .int (y.toNat : Int) v := by simpa using hab
    have hst : (bx.toList.zip bY.toList).take (i + 1) = (bx.toList.zip bY.toList).take i ++ [(x, y)] := by
      rw [List.take_add_one]
      congr 1
      have hq : (bx.toList.zip bY.toList)[i]? = some (x, y) := List.getElem?_zip_eq_some.mpr ⟨by simpa using hx, by simpa using hy⟩
      rw [hq]
      rfl
    have hlt : S + 5 < hh.objs.size := ltN hoD
    have hlt2 : S + 5 + 1 < hh.objs.size := nsN hns
    refine diffTurn hns ma mb rfl rfl rfl ?_ ?_
    · intro hne tk'
      refine ⟨_, tk', rfl, fun b o e => Heap.get?_push_of_some _ e, ?_, hi, ?_⟩
      · simp; omega
      · rw [hst, diff1_snoc]
        cases q : diff1 ((bx.toList.zip bY.toList).take i) with
        | none =>
          rw [q] at j3
          obtain rfl : ys = [] := j3
          simp only [hne, if_true, Option.none_or]
          refine ⟨hh.objs.size, u, v, _, [], rfl, Heap.get?_push_size _ rfl, ?_, fresh _ (by omega)⟩
          simp only [List.mem_cons, List.not_mem_nil, or_false, not_or]
          refine ⟨?_, ?_, ?_, ?_, ?_, ?_⟩ <;> (show @Ne Nat hh.objs.size _; omega)
        | some pq =>
          rw [q] at j3
          obtain ⟨e, u', v', n', r, h1, h2, h3, h4⟩ := j3
          exact ⟨e, u', v', n', r ++ [_], by rw [h1]; rfl, Heap.get?_push_of_some _ h2, h3, h4⟩
    · intro hne tk'
      refine ⟨_, tk', rfl, fun b o e => e, by omega, hi, ?_⟩
      rw [hst, diff1_snoc]
      simp only [hne, Bool.false_eq_true, if_false, Option.or_none]
      exact j3
  · rintro hh tk ys mm ⟨j1, j2, j3⟩ keep hD' hns
    have hz2 : (bx.toList.zip bY.toList).take bx.size = bx.toList.zip bY.toList := List.take_of_length_le (by simp; omega)
    rw [hz2] at j3
    have kk : ∀ b o, s.heap.get? b = some o → hh.get? b = some o := fun b o e => by
      have hb := ltN e
      refine keep b o ?_ (k4 _ _ (k1 _ _ e))
      show b ∉ (S + 5) :: (S + 5 + 1) :: [S + 4, S + 3, S, S + 1]
      simp only [List.mem_cons, List.not_mem_nil, or_false, not_or]
      refine ⟨?_, ?_, ?_, ?_, ?_, ?_⟩ <;> (show @Ne Nat b _; omega)
    have F' : Fr h₀ L hh m := F.keeps kk
    subst hL
    show wpAny _ _ (assign (.Name "differ" py) env (.ref (S + 5))) _ _ _
    refine wpAny_assign_Name (wpAny_storeName_local hd F'.ns (fun h₂ hn₂ hs₂ => ?_) hp)
    have hL₀ : h₀.get? env.locals = none := Heap.get?_none_of_le F'.above
    have F₂ : Fr h₀ env.locals h₂ (fun z => if z = "differ" then some (.ref (S + 5)) else m z) := ⟨hn₂, fun b o e => hs₂.extBut b o (fun q => by rw [q, hL₀] at e; cases e) (F'.keep b o e), F'.above⟩
    refine ⟨mm, hns.sameBut hs₂ (by show @Ne Nat (S + 5 + 1) env.locals; omega), fun h'' hs'' => ?_⟩
    have F₃ : Fr h₀ env.locals h'' (fun z => if z = "differ" then some (.ref (S + 5)) else m z) := F₂.change hs'' (by show @Ne Nat (S + 5 + 1) env.locals; omega) (fresh _ (by show S ≤ S + 5 + 1; omega))
    have up : ∀ b o, b ≠ env.locals → b ≠ S + 5 + 1 → hh.get? b = some o → h''.get? b = some o := fun b o h1 h2 e => hs''.extBut b o h2 (hs₂.extBut b o h1 e)
    have nD : h''.get? (S + 5) = some (lst ys) := up _ _ (by show @Ne Nat (S + 5) env.locals; omega) (by show @Ne Nat (S + 5) (S + 5 + 1); omega) hD'
    cases q : diff1 (bx.toList.zip bY.toList) with
    | none =>
      rw [q] at j3 h
      obtain rfl : ys = [] := j3
      refine h h'' _ (S + 5) F₃ fun p hp => ?_
      cases List.mem_singleton.mp hp
      exact ⟨nD, by show @Ne Nat (S + 5) env.locals; omega, fresh _ (by show S ≤ S + 5; omega)⟩
    | some pq =>
      rw [q] at j3 h
      obtain ⟨e, u', v', n', r, h1, h2, h3, h4⟩ := j3
      subst h1
      have heL : e ≠ env.locals := by
        rintro rfl
        obtain ⟨oL, es, ep, hL, e2, _⟩ := F'.ns
        rw [h2] at hL; cases hL
        cases e2
      refine h h'' _ (S + 5) e u' v' n' r (r.length + 1) F₃ (fun p hp => ?_) (by simp at j1; omega)
      rcases List.mem_cons.mp hp with rfl | hp
      · exact ⟨nD, by show @Ne Nat (S + 5) env.locals; omega, fresh _ (by show S ≤ S + 5; omega)⟩
      · cases List.mem_singleton.mp hp
        exact ⟨up _ _ heL (fun q => h3 (List.mem_cons_of_mem _ (by rw [show e = S + 5 + 1 from q]; exact List.mem_cons_self))) h2, heL, h4⟩
local macro_rules | `(tactic| walk_at "eval Name") => `(tactic| (refine nameX_B (by assumption) (by assumption) (topRead_of (by assumption)) (by rfl) (by first | exact PyProof.Rows.Boot.min | exact PyProof.Rows.Boot.max | exact PyProof.Rows.Boot.len | exact PyProof.Rows.Boot.zip) (by decide) ?_))
local macro_rules | `(tactic| walk_at "subscriptTail") => `(tactic| ((with_reducible show wpAny _ _ (subscriptTail _ (PySem.Expr.Slice none none (some _) _) (Value.bytes _ _) (Value.ref _)) _ _ _); (refine rev_K (s := ⟨_, _, _, _, _⟩) (by assumption) (by assumption) (by assumption) ?_); intro h' t' k' F' N'))
/-- a sign's place in a to z, 0 to 9 -/
def dv (c : UInt8) : Int := if (c.toNat : Int) > 96 then (c.toNat : Int) - 97 else (c.toNat : Int) - 22
/-- what the law's comparison answers -/
def cmpv (x y : Array UInt8) : Int := if (x.size : Int) = y.size then (match diff1 (x.reverse.toList.zip y.reverse.toList) with | none => 0 | some p => dv p.1 - dv p.2) else (x.size : Int) - y.size
theorem cmp_code {w : World} {d u : Nat} {fr : Option (List Env)} {gu : Option (List Code)} {s : Shared} {R : Result → Shared → Prop} {p : Program} {loose : List Str} {mean : ExcName → Option Value} {mg mb : Str → Option Value}
   {x y : Array UInt8} {tx ty : Tok}
   (X : (hd.heap_1 w.params).In s.heap) (T : Top p loose mean mg mb s.heap) (hroom : d + 2 < recursionLimit) (hu : u + 100 < cLine) (hx : x.size < 1000) (hy : y.size < 1000)
   (h : ∀ h' tk t, (∀ b o, s.heap.get? b = some o → h'.get? b = some o) → R (.ok (.ret (.int (cmpv x y) t))) { s with heap := h', toks := tk }) :
   codeAny (model PR w) ⟨none, d, fr, gu, u⟩ (.call (.ref 47) ⟨[.bytes x tx, .bytes y ty], []⟩) R s := by
  refine call_plain_ret (name := "_law_compare") (by show d < recursionLimit; omega) (X 47 _ rfl) rfl T.nolimit (codeRec_of X (by rfl)) (binds := [("one", .bytes x tx), ("two", .bytes y ty)]) (by with_unfolding_all rfl) (locs (by rfl)) (fun h₁ F => ?_)
  have hx2 : x.size ≤ 2 ^ 20 := by omega
  have hy2 : y.size ≤ 2 ^ 20 := by omega
  have N0 : News s.heap s.heap.objs.size h₁ [] := News.nil
  have _d : (hd.heap_1 w.params).In s.heap → Challenge.rw_ny0055_01.row.prog = Challenge.rw_ny0055_01.row.prog := by k_fill; intros; rfl
  w_on
  refine execsH ?_
  repeat' (first | walk1 | (dsimp only; walk1))
  try dsimp only
  · rename Fr _ _ _ _ => F9
    rename ¬ ((x.size : Int) = y.size) => hne
    rw [show cmpv x y = (x.size : Int) - y.size from if_neg hne] at h
    exact h _ _ _ F9.keep
  refine execsH (assignCompA (by with_unfolding_all rfl) (compA (cl := []) (by with_unfolding_all rfl) (by decide) (by rfl) (by decide) ?_))
  repeat' (first | walk1 | (dsimp only; walk1))
  rename Fr _ _ _ _ => F5
  clear F
  rename (x.size : Int) = y.size => hsz
  have hc : cmpv x y = (match diff1 (x.reverse.toList.zip y.reverse.toList) with | none => 0 | some p => dv p.1 - dv p.2) := if_pos hsz
  refine differ_ok rfl F5 rfl rfl rfl (by simp; omega) (by simpa using hx) ?_
  cases q : diff1 (x.reverse.toList.zip y.reverse.toList) with
  | none =>
    rw [q] at hc
    intro h6 tk6 D6 F6 N6
    clear F5
    show wpAny _ _ _ _ _ _
    repeat' (first | walk1 | (dsimp only; walk1))
    try dsimp only
    rename Fr _ _ _ _ => F9
    rw [hc] at h
    exact h _ _ _ F9.keep
  | some pq =>
    rw [q] at hc
    intro h6 tk6 D6 e6 u6 v6 k6 r6 n6 F6 N6 hr
    clear F5
    show wpAny _ _ _ _ _ _
    repeat' (first | walk1 | (dsimp only; walk1))
    rename News _ _ _ _ => N7
    have n1 := (N7 _ (.head _)).1
    have n2 := (N7 _ (.tail _ (.head _))).1
    refine PySem.SeqAt.eq_list_lengthsAt (items := (Value.ref e6 :: r6).toArray) (items2 := #[]) ⟨_, n2, rfl, _, rfl⟩ ⟨_, n1, rfl, _, rfl⟩ (by simp) (by show u + 3 < cLine; omega) ?_
    show wpAny _ _ (truthy (.bool false)) _ _ _
    repeat' (first | walk1 | (dsimp only; walk1))
    all_goals dsimp only
    all_goals rename Fr _ _ _ _ => F9
    all_goals
      rw [hc] at h
      unfold dv at h
      simp only [*, gt_iff_lt, if_true, if_false] at h
      exact h _ _ _ F9.keep
end Mine
end

section
/- part Kc -/
open PySem PySem.W PyProof.Rows PySem.Calls
set_option maxRecDepth 100000
set_option maxHeartbeats 8000000
namespace Mine
/-- what is left open of the class's objects: functions, hashes, tokens -/
structure KP where
  fi : FuncData
  fl : FuncData
  fg : FuncData
  fe : FuncData
  fle : FuncData
  fge : FuncData
  (a1 a2 a3 a4 a5 a6 a7 a8 a9 a10 a11 a12 a13 : Int)
  (t1 t2 t3 t4 t5 t6 t7 t8 t9 t10 t11 t12 t13 tm : Tok)
  (v1 v2 vn vq : Value)
/-- the class's objects -/
def KC (z : KP) : Frag := [
  (87, { cls := .type "cell", data := .cell (some (.ref 47)) }),
  (102, { cls := .type "function", data := .func z.fi }),
  (110, { cls := .type "function", data := .func z.fl }),
  (118, { cls := .type "function", data := .func z.fg }),
  (126, { cls := .type "function", data := .func z.fe }),
  (134, { cls := .type "function", data := .func z.fle }),
  (142, { cls := .type "function", data := .func z.fge }),
  (145, { cls := .type "dict", data := .dict #[⟨z.a1, .str "__module__" z.t1, z.v1⟩, ⟨z.a2, .str "__firstlineno__" z.t2, z.v2⟩, ⟨z.a3, .str "__slots__" z.t3, .ref 95⟩, ⟨z.a4, .str "__init__" z.t4, .ref 102⟩,
    ⟨z.a5, .str "__lt__" z.t5, .ref 110⟩, ⟨z.a6, .str "__gt__" z.t6, .ref 118⟩, ⟨z.a7, .str "__eq__" z.t7, .ref 126⟩, ⟨z.a8, .str "__le__" z.t8, .ref 134⟩, ⟨z.a9, .str "__ge__" z.t9, .ref 142⟩, ⟨z.a10, .str "__hash__" z.t10, .none⟩,
    ⟨z.a11, .str "__static_attributes__" z.t11, .ref 143⟩, ⟨z.a12, .str "obj" z.t12, .ref 147⟩, ⟨z.a13, .str "__doc__" z.t13, .none⟩] 3 }),
  (146, { cls := .type "type", data := .cls { name := "K", bases := [.type "object"], mro := [.ref 146, .type "object"], ns := 145, qualname := "cmp_to_key.<locals>.K", hasDict := false, slotNames := ["obj"] }, slots := #[some (.ref 88), none, some z.vn, some z.vq, some (.builtin "object.__new__"), some (.bool false)] }),
  (147, { cls := .type "member_descriptor", data := .fields #[.str "obj" z.tm, .ref 146, .builtin "proto.slot", .builtin "proto.slot#set", .int 0 0] })]
theorem kc_makes (z : KP) : makesIn (KC z) 146 = true := by with_unfolding_all rfl
theorem kc_init (z : KP) : findIn (KC z) (.ref 146) "__init__" = some (some (.ref 102)) := by with_unfolding_all rfl
theorem kc_fn (z : KP) : typeIn (KC z) (.ref 102) = some (.type "function") := by with_unfolding_all rfl
theorem kc_slot (z : KP) : slotIn (KC z) 147 146 = some 0 := by with_unfolding_all rfl
theorem kc_obj (z : KP) : findIn (KC z) (.ref 146) "obj" = some (some (.ref 147)) := by with_unfolding_all rfl
theorem kc_get (z : KP) : specialIn (KC z) (.ref 147) "__get__" = some (some (.builtin "member_descriptor.__get__")) := by with_unfolding_all rfl
theorem kc_takes (z : KP) : takesIn (KC z) (.ref 147) = some true := by with_unfolding_all rfl
theorem kc_plainGet (z : KP) : plainGet (KC z) 146 "obj" = true := by with_unfolding_all rfl
theorem kc_isCls (z : KP) : isClsIn (KC z) 146 = true := by with_unfolding_all rfl
theorem kc_setattr (z : KP) : findIn (KC z) (.ref 146) "__setattr__" = some (some (.builtin "object.__setattr__")) := by with_unfolding_all rfl
theorem kc_plainOver (z : KP) : plainOver (KC z) 146 = true := by with_unfolding_all rfl
theorem kc_taker (z : KP) : takerIn (KC z) 146 "obj" = some (some (.ref 147)) := by with_unfolding_all rfl
theorem kc_mtype (z : KP) : typeIn (KC z) (.ref 147) = some (.type "member_descriptor") := by with_unfolding_all rfl
abbrev mScope : Scope := { kind := .function, names := [("self", .local), ("other", .local), ("mycmp", .free)], isGenerator := false, isCoroutine := false }
abbrev mParams (b : Str) (q1 q2 : Pos) : Arguments := { posonlyargs := [], args := [{ arg := "self", annotation := none, pos := q1 }, { arg := b, annotation := none, pos := q2 }], vararg := none, kwonlyargs := [], kw_defaults := [], kwarg := none, defaults := [] }
/-- a comparing method of the class, its places in the text left open -/
def MethIs (f : FuncData) (nm qual : Str) (op : CmpOp) (cd ct : Addr) : Prop :=
  ∃ p0 p1 p2 p3 p4 p5 p6 p7 p8 q1 q2 pm, f = fnX nm qual (mParams "other" q1 q2)
    [.Return (some (.Compare (.Call (.Name "mycmp" p0) [.Attribute (.Name "self" p1) "obj" p2, .Attribute (.Name "other" p3) "obj" p4] [] p5) [op] [.Constant (.int 0) 0 p6] p7)) p8] mScope [("mycmp", 87)] .none .none .none pm none (.ref cd) (.ref ct)
abbrev iScope : Scope := { kind := .function, names := [("self", .local), ("obj", .local)], isGenerator := false, isCoroutine := false }
/-- the class's __init__ -/
def InitIs (f : FuncData) (nm qual : Str) (cd : Addr) : Prop :=
  ∃ p0 p1 p2 p3 q1 q2 pm, f = fnX nm qual (mParams "obj" q1 q2) [.Assign [.Attribute (.Name "self" p0) "obj" p1] (.Name "obj" p2) p3] iScope [] .none .none .none pm none (.ref cd) .none
/-- the class stands in the heap -/
structure KIs (h : Heap) : Prop where
  frag : ∃ z, (KC z).In h ∧ InitIs z.fi "__init__" "cmp_to_key.<locals>.K.__init__" 101 ∧ MethIs z.fl "__lt__" "cmp_to_key.<locals>.K.__lt__" .Lt 109 103 ∧ MethIs z.fg "__gt__" "cmp_to_key.<locals>.K.__gt__" .Gt 117 111 ∧
    MethIs z.fe "__eq__" "cmp_to_key.<locals>.K.__eq__" .Eq 125 119 ∧ MethIs z.fle "__le__" "cmp_to_key.<locals>.K.__le__" .LtE 133 127 ∧ MethIs z.fge "__ge__" "cmp_to_key.<locals>.K.__ge__" .GtE 141 135
  ci : h.CodeRec (.ref 101) "cmp_to_key.<locals>.K.__init__"
  cl : h.CodeRec (.ref 109) "cmp_to_key.<locals>.K.__lt__"
  cg : h.CodeRec (.ref 117) "cmp_to_key.<locals>.K.__gt__"
  ce : h.CodeRec (.ref 125) "cmp_to_key.<locals>.K.__eq__"
  cle : h.CodeRec (.ref 133) "cmp_to_key.<locals>.K.__le__"
  cge : h.CodeRec (.ref 141) "cmp_to_key.<locals>.K.__ge__"
theorem KIs.keeps {h h' : Heap} (x : KIs h) (k : ∀ b o, h.get? b = some o → h'.get? b = some o) : KIs h' :=
  ⟨let ⟨z, a, r⟩ := x.frag; ⟨z, a.keeps k, r⟩, x.ci.keeps k, x.cl.keeps k, x.cg.keeps k, x.ce.keeps k, x.cle.keeps k, x.cge.keeps k⟩
end Mine
end

section
/- part Kz -/
open PySem PySem.W PySem.W.X PySem.W.ZRun PyProof.Rows
set_option maxRecDepth 100000
set_option maxHeartbeats 8000000
namespace Mine
def fnAt (T : BT) (i : Nat) : FuncData := match T.get i with | some ⟨_, _, .func f, _⟩ => f | _ => default
def entAt (T : BT) (k : Nat) : DictEntry := match T.get 59 with | some ⟨_, _, .dict es _, _⟩ => es.toList.getD k default | _ => default
def tokOf : Value → Tok | .str _ t => t | _ => 0
def slotAt (T : BT) (k : Nat) : Value := match T.get 60 with | some ⟨_, _, _, sl⟩ => (sl.toList.getD k none).getD .none | _ => default
def fldAt (T : BT) (k : Nat) : Value := match T.get 61 with | some ⟨_, _, .fields vs, _⟩ => vs.toList.getD k .none | _ => default
/-- the open parts, read off the tree of new objects -/
def zOf (T : BT) : KP where
  fi := fnAt T 16
  fl := fnAt T 24
  fg := fnAt T 32
  fe := fnAt T 40
  fle := fnAt T 48
  fge := fnAt T 56
  a1 := (entAt T 0).hash
  a2 := (entAt T 1).hash
  a3 := (entAt T 2).hash
  a4 := (entAt T 3).hash
  a5 := (entAt T 4).hash
  a6 := (entAt T 5).hash
  a7 := (entAt T 6).hash
  a8 := (entAt T 7).hash
  a9 := (entAt T 8).hash
  a10 := (entAt T 9).hash
  a11 := (entAt T 10).hash
  a12 := (entAt T 11).hash
  a13 := (entAt T 12).hash
  t1 := tokOf (entAt T 0).key
  t2 := tokOf (entAt T 1).key
  t3 := tokOf (entAt T 2).key
  t4 := tokOf (entAt T 3).key
  t5 := tokOf (entAt T 4).key
  t6 := tokOf (entAt T 5).key
  t7 := tokOf (entAt T 6).key
  t8 := tokOf (entAt T 7).key
  t9 := tokOf (entAt T 8).key
  t10 := tokOf (entAt T 9).key
  t11 := tokOf (entAt T 10).key
  t12 := tokOf (entAt T 11).key
  t13 := tokOf (entAt T 12).key
  tm := tokOf (fldAt T 0)
  v1 := (entAt T 0).val
  v2 := (entAt T 1).val
  vn := slotAt T 2
  vq := slotAt T 3
def posM (f : FuncData) : List Pos := match f.body with
  | .stmts [.Return (some (.Compare (.Call (.Name _ p0) [.Attribute (.Name _ p1) _ p2, .Attribute (.Name _ p3) _ p4] _ p5) _ [.Constant _ _ p6] p7)) p8] => [p0, p1, p2, p3, p4, p5, p6, p7, p8]
  | .stmts [.Assign [.Attribute (.Name _ p0) _ p1] (.Name _ p2) p3] => [p0, p1, p2, p3]
  | _ => []
def posA (f : FuncData) (k : Nat) : Pos := (f.params.args.map (·.pos)).getD k default
def posB (f : FuncData) (k : Nat) : Pos := (posM f).getD k default
def methOf (f : FuncData) (nm qual : Str) (op : CmpOp) (cd ct : Addr) : FuncData := fnX nm qual (mParams "other" (posA f 0) (posA f 1))
    [.Return (some (.Compare (.Call (.Name "mycmp" (posB f 0)) [.Attribute (.Name "self" (posB f 1)) "obj" (posB f 2), .Attribute (.Name "other" (posB f 3)) "obj" (posB f 4)] [] (posB f 5)) [op] [.Constant (.int 0) 0 (posB f 6)] (posB f 7))) (posB f 8)] mScope [("mycmp", 87)] .none .none .none f.pyModule none (.ref cd) (.ref ct)
def initOf (f : FuncData) (nm qual : Str) (cd : Addr) : FuncData := fnX nm qual (mParams "obj" (posA f 0) (posA f 1)) [.Assign [.Attribute (.Name "self" (posB f 0)) "obj" (posB f 1)] (.Name "obj" (posB f 2)) (posB f 3)] iScope [] .none .none .none f.pyModule none (.ref cd) .none
theorem methIs_of {f : FuncData} {nm qual : Str} {op : CmpOp} {cd ct : Addr} (h : f = methOf f nm qual op cd ct) : MethIs f nm qual op cd ct := ⟨_, _, _, _, _, _, _, _, _, _, _, _, h⟩
theorem initIs_of {f : FuncData} {nm qual : Str} {cd : Addr} (h : f = initOf f nm qual cd) : InitIs f nm qual cd := ⟨_, _, _, _, _, _, _, h⟩
def codeAt (T : BT) (i : Nat) : Array Value := match T.get i with | some ⟨_, _, .fields vs, _⟩ => vs | _ => #[]
def codeObj (vs : Array Value) : Obj := { cls := .type "code", data := .fields vs }
def qualAt (T : BT) (i : Nat) : Tok := tokOf ((codeAt T i).toList.getD 1 .none)
theorem rec_of9 {V : XV} {h : Heap} {T : BT} {m : Nat} {ch : Ch} (D : Rep V h T m ch) (i : Nat) (q : Str) (a : Addr) (hn : V.n₁ + i = a) (h1 : T.get i = some (codeObj (codeAt T i))) (h2 : (codeAt T i)[1]? = some (.str q (qualAt T i))) : h.CodeRec (.ref a) q :=
  ⟨a, _, _, _, rfl, hn ▸ (D.own i _ h1).2, rfl, h2⟩
theorem at9 {V : XV} {h : Heap} {T : BT} {m : Nat} {ch : Ch} (D : Rep V h T m ch) (i : Nat) (a : Addr) (o : Obj) (hn : V.n₁ + i = a) (h1 : T.get i = some o) : h.get? a = some o := hn ▸ (D.own i _ h1).2
theorem kc_in {h : Heap} {z : KP} (g : ∀ p ∈ KC z, h.get? p.1 = some p.2) : (KC z).In h := by
  have key : ∀ (K : Frag), (∀ p ∈ K, h.get? p.1 = some p.2) → K.In h := by
    intro K
    induction K with
    | nil => intro _ a o e; cases e
    | cons p r ih =>
      intro g a o e
      rw [List.lookup_cons] at e
      cases q : a == p.1 with
      | true =>
        rw [q] at e
        cases e
        rw [eq_of_beq q]
        exact g p List.mem_cons_self
      | false =>
        rw [q] at e
        exact ih (fun p' hp => g p' (List.mem_cons_of_mem _ hp)) a o e
  exact key _ g
theorem kis_of {V : XV} {h : Heap} {T : BT} {m : Nat} {ch : Ch} (D : Rep V h T m ch) (hn : V.n₁ = 86)
    (e : (KC (zOf T)).map (fun p => T.get (p.1 - 86)) = (KC (zOf T)).map fun p => some p.2)
    (fi : (zOf T).fi = initOf (zOf T).fi "__init__" "cmp_to_key.<locals>.K.__init__" 101)
    (fl : (zOf T).fl = methOf (zOf T).fl "__lt__" "cmp_to_key.<locals>.K.__lt__" .Lt 109 103)
    (fg : (zOf T).fg = methOf (zOf T).fg "__gt__" "cmp_to_key.<locals>.K.__gt__" .Gt 117 111)
    (fe : (zOf T).fe = methOf (zOf T).fe "__eq__" "cmp_to_key.<locals>.K.__eq__" .Eq 125 119)
    (fle : (zOf T).fle = methOf (zOf T).fle "__le__" "cmp_to_key.<locals>.K.__le__" .LtE 133 127)
    (fge : (zOf T).fge = methOf (zOf T).fge "__ge__" "cmp_to_key.<locals>.K.__ge__" .GtE 141 135)
    (c1 : [15, 23, 31, 39, 47, 55].map T.get = [15, 23, 31, 39, 47, 55].map fun i => some (codeObj (codeAt T i)))
    (c2 : [15, 23, 31, 39, 47, 55].map (fun i => (codeAt T i)[1]?) = [some (.str "cmp_to_key.<locals>.K.__init__" (qualAt T 15)), some (.str "cmp_to_key.<locals>.K.__lt__" (qualAt T 23)), some (.str "cmp_to_key.<locals>.K.__gt__" (qualAt T 31)),
      some (.str "cmp_to_key.<locals>.K.__eq__" (qualAt T 39)), some (.str "cmp_to_key.<locals>.K.__le__" (qualAt T 47)), some (.str "cmp_to_key.<locals>.K.__ge__" (qualAt T 55))]) : KIs h := by
  simp only [List.map_cons, List.map_nil, List.cons.injEq, and_true] at c1 c2
  obtain ⟨d1, d2, d3, d4, d5, d6⟩ := c1
  obtain ⟨q1, q2, q3, q4, q5, q6⟩ := c2
  refine ⟨⟨zOf T, kc_in fun p hp => ?_, initIs_of fi, methIs_of fl, methIs_of fg, methIs_of fe, methIs_of fle, methIs_of fge⟩, rec_of9 D 15 _ _ (by rw [hn]) d1 q1, rec_of9 D 23 _ _ (by rw [hn]) d2 q2, rec_of9 D 31 _ _ (by rw [hn]) d3 q3, rec_of9 D 39 _ _ (by rw [hn]) d4 q4, rec_of9 D 47 _ _ (by rw [hn]) d5 q5, rec_of9 D 55 _ _ (by rw [hn]) d6 q6⟩
  have h1 : T.get (p.1 - 86) = some p.2 := List.map_inj_left.mp e p hp
  have h2 : ∀ p ∈ KC (zOf T), 86 ≤ p.1 := by
    intro p hp
    unfold KC at hp
    simp only [List.mem_cons, List.not_mem_nil, or_false] at hp
    rcases hp with rfl | rfl | rfl | rfl | rfl | rfl | rfl | rfl | rfl | rfl <;> exact Nat.le_of_ble_eq_true rfl
  exact at9 D (p.1 - 86) p.1 p.2 (by rw [hn]; exact Nat.add_sub_cancel' (h2 p hp)) h1
theorem st_eq {s₂ : Shared} {h : Heap} {g : Array GenState} {d : Drawn} {t : Nat} {os : OsState} (hg : s₂.gens = #[]) (h1 : g = #[]) (h2 : d = s₂.drawn) (h3 : os = s₂.os) : ∃ h' tk, (⟨h, g, d, t, os⟩ : Shared) = { s₂ with heap := h', toks := tk } := by
  subst h1 h2 h3
  exact ⟨h, t, by rw [← hg]⟩
end Mine
end

section
/- part Kk -/
open PySem PySem.W PyProof.Rows PySem.Calls
set_option maxRecDepth 100000
set_option maxHeartbeats 8000000
namespace Mine
/-- an object of the class -/
abbrev kObj (dx : Addr) (v : Value) : Obj := { cls := .ref 146, dict := some dx, data := .plain, slots := #[some v] }
/-- an object of the class that holds bytes -/
def KAt (h : Heap) (a : Addr) (x : Array UInt8) : Prop := ∃ dx t, h.get? a = some (kObj dx (.bytes x t)) ∧ h.get? dx = some emptyDict
theorem KAt.keeps {h h' : Heap} {a : Addr} {x : Array UInt8} (y : KAt h a x) (k : ∀ b o, h.get? b = some o → h'.get? b = some o) : KAt h' a x :=
  let ⟨dx, t, e1, e2⟩ := y; ⟨dx, t, k _ _ e1, k _ _ e2⟩
theorem init_code {w : World} {A : Around} {s : Shared} {R : Result → Shared → Prop} {h₀ : Heap} {z : KP} {x dx : Addr} {bx : Array UInt8} {t : Tok}
   (X : (KC z).In h₀) (hI : InitIs z.fi "__init__" "cmp_to_key.<locals>.K.__init__" 101) (hcd : s.heap.CodeRec (.ref 101) "cmp_to_key.<locals>.K.__init__") (hlim : s.heap.NoLimit) (hroom : A.depth < recursionLimit)
   (keep : ∀ b o, h₀.get? b = some o → s.heap.get? b = some o) (hx : s.heap.get? x = some (instObj 146 dx)) (hdx : s.heap.get? dx = some emptyDict) (x0 : h₀.get? x = none) (d0 : h₀.get? dx = none) (hsz : h₀.objs.size ≤ s.heap.objs.size)
   (h : ∀ h' tk, (∀ b o, h₀.get? b = some o → h'.get? b = some o) → h'.get? x = some (kObj dx (.bytes bx t)) → h'.get? dx = some emptyDict → R (.ok (.ret .none)) { s with heap := h', toks := tk }) :
   codeAny (model PR w) A (.call (.ref 102) ⟨[.ref x, .bytes bx t], []⟩) R s := by
  obtain ⟨p0, p1, p2, p3, q1, q2, pm, hf⟩ := hI
  have hne : x ≠ dx := by rintro rfl; rw [hx] at hdx; cases hdx
  have hxl := ltN hx
  have hdl := ltN hdx
  refine codeAny_call_def (fd := z.fi) (body := [.Assign [.Attribute (.Name "self" p0) "obj" p1] (.Name "obj" p2) p3]) (binds := [("self", .ref x), ("obj", .bytes bx t)]) hroom (keep _ _ (X 102 _ rfl)) rfl hlim (by rw [hf]; exact hcd) (by rw [hf]) (BindsTo.of_eq (by rw [hf]; with_unfolding_all rfl)) (by rw [hf]; show ∀ x ∈ iScope.names, x.2 ≠ .cell; decide) (by rw [hf]; exact locs (by rfl)) (fun h₁ hns hk₁ => ?_) (by rw [hf]) (by rw [hf]) (by rw [hf])
  have he : callEnv z.fi s.heap.objs.size 102 = envX "cmp_to_key.<locals>.K.__init__" iScope s.heap.objs.size 102 (.ref 101) [] := by rw [hf]; rfl
  rw [he]
  have F : Fr h₀ s.heap.objs.size h₁ (fun y => ([("self", Value.ref x), ("obj", .bytes bx t)] : List (Str × Value)).reverse.lookup y) := ⟨hns, fun b o e => hk₁ _ _ (keep _ _ e), hsz⟩
  have N : News h₀ s.heap.objs.size h₁ [(x, instObj 146 dx), (dx, emptyDict)] := fun p hp => by
    rcases List.mem_cons.mp hp with rfl | hp
    · exact ⟨hk₁ _ _ hx, Nat.ne_of_lt hxl, x0⟩
    · cases List.mem_singleton.mp hp
      exact ⟨hk₁ _ _ hdx, Nat.ne_of_lt hdl, d0⟩
  refine wpAny_execs_cons (plainObj_wpAny_Assign_Attribute (nameX_L F rfl (nameX_L F rfl ?_)) (by with_unfolding_all rfl))
  refine set_slot F X N ⟨hk₁ _ _ hx, rfl, rfl, hk₁ _ _ hdx⟩ (kc_setattr z) (kc_plainOver z) (kc_taker z) (kc_mtype z) (kc_slot z) (by decide) (ox' := kObj dx (.bytes bx t)) rfl rfl (.head fun p hp => by cases List.mem_singleton.mp hp; exact hne.symm) fun h₂ F₂ N₂ => ?_
  refine wpAny_execs_nil ?_
  exact h _ _ F₂.keep (N₂ _ (.head _)).1 (N₂ _ (.tail _ (.head _))).1
theorem key_code {w : World} {A : Around} {s : Shared} {R : Result → Shared → Prop} {bx : Array UInt8} {t : Tok} (K : KIs s.heap) (hlim : s.heap.NoLimit) (hroom : A.depth + 1 < recursionLimit)
   (h : ∀ h' tk a dx, (∀ b o, s.heap.get? b = some o → h'.get? b = some o) → s.heap.objs.size ≤ a → s.heap.objs.size ≤ dx → h'.get? a = some (kObj dx (.bytes bx t)) → h'.get? dx = some emptyDict → R (.ok (.ret (.ref a))) { s with heap := h', toks := tk }) :
   codeAny (model PR w) A (.call (.ref 146) ⟨[.bytes bx t], []⟩) R s := by
  obtain ⟨z, X, hI, _⟩ := K.frag
  have hcd := K.ci
  obtain ⟨hh, g, d, tk, os⟩ := s
  have up : ∀ b o, hh.get? b = some o → ((hh.push emptyDict).push (instObj 146 hh.objs.size)).get? b = some o := fun b o e => Heap.get?_push_of_some _ (Heap.get?_push_of_some _ e)
  have z1 : (hh.push emptyDict).objs.size = hh.objs.size + 1 := Heap.size_push ..
  refine make_core (makes_of X (kc_makes z)) (looks_findIn X (kc_init z)) (fun self => bind_fn X self (kc_fn z)) (.inl rfl) ?_
  have gx : ((hh.push emptyDict).push (instObj 146 hh.objs.size)).get? (hh.objs.size + 1) = some (instObj 146 hh.objs.size) := z1 ▸ Heap.get?_push_size _ rfl
  have n0 : ∀ a, hh.objs.size ≤ a → hh.get? a = none := fun a ha => Heap.get?_none_of_le ha
  refine init_code (h₀ := hh) X hI (hcd.keeps up) (hlim.keeps up) hroom up gx (Heap.get?_push_of_some _ (Heap.get?_push_size _ rfl)) (n0 _ (Nat.le_succ _)) (n0 _ (Nat.le_refl _)) (by show hh.objs.size ≤ _; rw [Heap.size_push, z1]; omega) fun h' tk' k a b => ?_
  exact ⟨rfl, h h' tk' _ _ k (Nat.le_succ _) (Nat.le_refl _) a b⟩
end Mine
end

section
/- part Km -/
open PySem PySem.W PyProof.Rows PySem.Calls
set_option maxRecDepth 100000
set_option maxHeartbeats 8000000
namespace Mine
section
variable {M : Model} {A : Around} {E : Value → Shared → Prop} {s : Shared} {env : Env}
theorem cwFunA {pos : Pos} {a : Addr} {o : Obj} {fd : FuncData} {first : List Value} {args : List (Bool × Sem Value)} {Q : Value → Shared → Prop} (hplain : args.any (·.1) = false)
    (h : wpAny M A (evalArgs (.ref a) true args []) (fun x s₁ => (s₁.heap.get? a = some o ∧ o.data = .func fd) ∧ wpAny M A (call (.ref a) (first ++ x.pos) x.kw) Q E s₁) E s) :
    wpAny M A (callWith pos (.ref a) first args []) Q E s := by
  unfold callWith
  refine wpAny_bind (wpAny_holding (wpAny_mono h (fun x s₁ h₁ => wpAny_bind (wpAny_standAt ?_)) fun _ _ x => x))
  have tail : ∀ {t : Sem Value}, wpAny M A t Q E s₁ → wpAny M A (t >>= fun r => holding [r] point >>= fun _ => pure r) Q E s₁ :=
    fun ht => wpAny_bind (wpAny_mono ht (fun r s₂ hr => wpAny_bind (wpAny_holding (wpAny_point (wpAny_pure hr)))) fun _ _ x => x)
  simp only [hplain, List.any_nil, Bool.or_false]
  refine wpAny_bind ?_
  unfold keeperOf
  refine wpAny_bind (wpAny_load h₁.1.1 ?_)
  rw [h₁.1.2]
  refine wpAny_pure ?_
  dsimp only
  split
  · exact tail h₁.2
  · exact tail (wpAny_keep h₁.2)
theorem cwFun1A {pos : Pos} {f : Addr} {o : Obj} {fd : FuncData} {e : Expr} {rest : List Expr} {Q : Value → Shared → Prop} (hdat : o.data = .func fd)
    (h : wpAny M A (spliced (backTo pos (starEach (e :: rest) env))) (fun vs s₁ => s₁.heap.get? f = some o ∧ wpAny M A (call (.ref f) vs) Q E s₁) E s)
    (he : starEach (e :: rest) env = (false, eval e env) :: starEach rest env := by rfl)
    (hplain : (backTo pos (starEach rest env)).any (·.1) = false := by rfl) :
    wpAny M A (callWith pos (.ref f) [] (backTo pos (starEach (e :: rest) env)) []) Q E s := by
  rw [he] at h ⊢
  exact cwFunA (o := o) (fd := fd) (by show (false || (backTo pos (starEach rest env)).any (·.1)) = false; rw [hplain]; rfl) (Calls.evalArgs_plain (wpAny_mono h (fun vs s₁ h₁ => ⟨⟨h₁.1, hdat⟩, h₁.2⟩) fun _ _ x => x))
end
/-- what a comparison of a number with 0 answers -/
def opB : CmpOp → Int → Bool
  | .Lt, i => decide (i < 0)
  | .Gt, i => decide (i > 0)
  | .Eq, i => decide (i = 0)
  | .LtE, i => decide (i ≤ 0)
  | .GtE, i => decide (i ≥ 0)
  | _, _ => false
theorem meth_code {w : World} {d u : Nat} {fr : Option (List Env)} {gu : Option (List Code)} {s : Shared} {R : Result → Shared → Prop} {p : Program} {loose : List Str} {mean : ExcName → Option Value} {mg mb : Str → Option Value}
   {z : KP} {fd : FuncData} {f cd ct ax ay : Addr} {nm qual : Str} {op : CmpOp} {bx bY : Array UInt8}
   (X : (hd.heap_1 w.params).In s.heap) (T : Top p loose mean mg mb s.heap) (Z : (KC z).In s.heap) (hf : s.heap.get? f = some { cls := .type "function", data := .func fd }) (hM : MethIs fd nm qual op cd ct) (hcd : s.heap.CodeRec (.ref cd) qual)
   (hroom : d + 3 < recursionLimit) (hu : u + 200 < cLine) (hop : op = .Lt ∨ op = .Gt ∨ op = .Eq ∨ op = .LtE ∨ op = .GtE) (kx : KAt s.heap ax bx) (ky : KAt s.heap ay bY) (hx : bx.size < 1000) (hy : bY.size < 1000)
   (h : ∀ h' tk, (∀ b o, s.heap.get? b = some o → h'.get? b = some o) → R (.ok (.ret (.bool (opB op (cmpv bx bY))))) { s with heap := h', toks := tk }) :
   codeAny (model PR w) ⟨none, d, fr, gu, u⟩ (.call (.ref f) ⟨[.ref ax, .ref ay], []⟩) R s := by
  obtain ⟨p0, p1, p2, p3, p4, p5, p6, p7, p8, q1, q2, pm, hfd⟩ := hM
  refine codeAny_call_def (fd := fd) (binds := [("self", .ref ax), ("other", .ref ay)]) (by show d < recursionLimit; omega) hf rfl T.nolimit (by rw [hfd]; exact hcd) (by rw [hfd]) (BindsTo.of_eq (by rw [hfd]; with_unfolding_all rfl)) (by rw [hfd]; show ∀ x ∈ mScope.names, x.2 ≠ .cell; decide) (by rw [hfd]; exact locs (by rfl)) (fun h₁ hns hk₁ => ?_) (by rw [hfd]) (by rw [hfd]) (by rw [hfd])
  have he : callEnv fd s.heap.objs.size f = envX qual mScope s.heap.objs.size f (.ref cd) [("mycmp", 87)] := by rw [hfd]; rfl
  rw [he]
  have F : Fr s.heap s.heap.objs.size h₁ (fun y => ([("self", Value.ref ax), ("other", .ref ay)] : List (Str × Value)).reverse.lookup y) := ⟨hns, hk₁, Nat.le_refl _⟩
  obtain ⟨dx, tx, ex, edx⟩ := kx
  obtain ⟨dy, ty, ey, edy⟩ := ky
  obtain ⟨o47, fd47, e47, d47⟩ : ∃ o fd, s.heap.get? 47 = some o ∧ o.data = .func fd := ⟨_, _, X 47 _ rfl, rfl⟩
  refine wpAny_mono (E := fun _ _ => False) ?_ (fun _ _ q => q) fun _ _ q => q.elim
  refine wpAny_execs_cons (wpAny_Return_some (wpAny_Compare1 (Call_Name rfl (wpAny_Name (wpAny_loadName_free rfl rfl (c := 87) rfl ⟨_, hk₁ _ _ (Z 87 _ rfl), rfl⟩ (cwFun1A d47 (args_cons (Attribute_name (nameX_L F rfl ?_))))))) (by with_unfolding_all rfl)))
  refine get_slot F Z ⟨hk₁ _ _ ex, rfl, rfl, hk₁ _ _ edx⟩ (kc_plainGet z) (kc_isCls z) (kc_obj z) (kc_get z) (kc_takes z) (kc_slot z) (v := .bytes bx tx) rfl rfl ?_
  refine args_cons (Attribute_name (nameX_L F rfl ?_))
  refine get_slot F Z ⟨hk₁ _ _ ey, rfl, rfl, hk₁ _ _ edy⟩ (kc_plainGet z) (kc_isCls z) (kc_obj z) (kc_get z) (kc_takes z) (kc_slot z) (v := .bytes bY ty) rfl rfl ?_
  refine args_nil ⟨hk₁ _ _ e47, wpAny_call ?_⟩
  refine cmp_code (X.keeps hk₁) (T.keeps hk₁) (by omega) (by show u + 3 + 100 < cLine; omega) hx hy fun h₂ tk₂ t₂ k₂ => ?_
  refine wpAny_Constant_int ?_
  have fin : ∀ tk, R (.ok (.ret (.bool (opB op (cmpv bx bY))))) { s with heap := h₂, toks := tk } := fun tk => h _ _ fun b o e => k₂ _ _ (hk₁ _ _ e)
  rcases hop with rfl | rfl | rfl | rfl | rfl
  all_goals walk1
  all_goals exact fin _
theorem mro_obj : mroOf (.type "object") = pure [.type "object"] := by rw [mroOf_type]; kernel_rfl
theorem lk_lt : typeLookup (.type "object") "__lt__" = pure (some (.builtin "object.__lt__")) := by rw [typeLookup_type, builtinLookup_eq_fast]; kernel_rfl
theorem lk_gt : typeLookup (.type "object") "__gt__" = pure (some (.builtin "object.__gt__")) := by rw [typeLookup_type, builtinLookup_eq_fast]; kernel_rfl
theorem lk_eq : typeLookup (.type "object") "__eq__" = pure (some (.builtin "object.__eq__")) := by rw [typeLookup_type, builtinLookup_eq_fast]; kernel_rfl
theorem lk_le : typeLookup (.type "object") "__le__" = pure (some (.builtin "object.__le__")) := by rw [typeLookup_type, builtinLookup_eq_fast]; kernel_rfl
theorem lk_ge : typeLookup (.type "object") "__ge__" = pure (some (.builtin "object.__ge__")) := by rw [typeLookup_type, builtinLookup_eq_fast]; kernel_rfl
theorem own_of {h : Heap} {z : KP} (Z : (KC z).In h) {x : Addr} {bx : Array UInt8} (kx : KAt h x bx) {f : Addr} {of : Obj} {nm : Str} {y : Option Value} (hf : h.get? f = some of) (hc : of.cls = .type "function") (hy : typeLookup (.type "object") nm = pure y)
    (hn : ∀ es ep, (KC z).lookup 145 = some { cls := .type "dict", data := .dict es ep } → StrKeys es ∧ nsFind es nm = some (.ref f)) : h.OwnSpecial x 146 f "object" nm := by
  obtain ⟨dx, tx, ex, edx⟩ := kx
  have h145 := Z 145 _ rfl
  obtain ⟨sk, nf⟩ := hn _ _ rfl
  exact ⟨_, of, _, _, 145, _, [.type "object"], _, _, _, _, _, _, _, _, _, _, _, _, _, y, ex, rfl, Z 146 _ rfl, ⟨_, _, _, h145, rfl, sk, fun _ => rfl⟩, nf, hf, hc, mro_obj, hy⟩
end Mine
end

section
/- part Kq -/
open PySem PySem.W PyProof.Rows PySem.Calls
set_option maxRecDepth 100000
set_option maxHeartbeats 8000000
namespace Mine
theorem kc_keys {z : KP} {es : Array DictEntry} {ep : Nat} (e : (KC z).lookup 145 = some { cls := .type "dict", data := .dict es ep }) : StrKeys es := by
  have e2 : es = _ := (Data.dict.inj (Obj.mk.inj (Option.some.inj e)).2.2.1).1.symm
  subst e2
  intro en hen
  simp only [List.mem_toArray, List.mem_cons, List.not_mem_nil, or_false] at hen
  rcases hen with rfl | rfl | rfl | rfl | rfl | rfl | rfl | rfl | rfl | rfl | rfl | rfl | rfl <;> exact ⟨_, _, rfl⟩
theorem kc_ns {z : KP} {es : Array DictEntry} {ep : Nat} {nm : Str} {v : Option Value} (e : (KC z).lookup 145 = some { cls := .type "dict", data := .dict es ep })
    (h : (match (KC z).lookup 145 with | some ⟨_, _, .dict es _, _⟩ => nsFind es nm | _ => none) = v) : nsFind es nm = v := by rw [e] at h; exact h
theorem k_compare {w : World} {d u : Nat} {fr : Option (List Env)} {gu : Option (List Code)} {s : Shared} {E : Value → Shared → Prop} {Q : Value → Shared → Prop} {p : Program} {loose : List Str} {mean : ExcName → Option Value} {mg mb : Str → Option Value}
   {ax ay : Addr} {op : CmpOp} {bx bY : Array UInt8}
   (X : (hd.heap_1 w.params).In s.heap) (T : Top p loose mean mg mb s.heap) (K : KIs s.heap) (hroom : d + 3 < recursionLimit) (hu : u + 200 < cLine) (hop : op = .Lt ∨ op = .Gt ∨ op = .Eq ∨ op = .LtE ∨ op = .GtE)
   (kx : KAt s.heap ax bx) (ky : KAt s.heap ay bY) (hx : bx.size < 1000) (hy : bY.size < 1000)
   (h : ∀ h' tk, (∀ b o, s.heap.get? b = some o → h'.get? b = some o) → Q (.bool (opB op (cmpv bx bY))) { s with heap := h', toks := tk }) :
   wpAny (model PR w) ⟨none, d, fr, gu, u⟩ (compareOp op (.ref ax) (.ref ay)) Q E s := by
  obtain ⟨z, Z, _, m1, m2, m3, m4, m5⟩ := K.frag
  obtain ⟨_, _, ey, _⟩ := id ky
  obtain ⟨hh, g, dr, tk, os⟩ := s
  rcases hop with rfl | rfl | rfl | rfl | rfl
  · refine compareOp_own_same (fA := 110) rfl ⟨by decide, by decide, by decide, by decide⟩ (own_of Z kx (Z 110 _ rfl) rfl lk_lt fun es ep e => ⟨kc_keys e, kc_ns e (by with_unfolding_all rfl)⟩) ey rfl (by show u < cLine; omega) (wpAny_call (meth_code X T Z (Z 110 _ rfl) m1 K.cl hroom hu (by simp) kx ky hx hy fun h' tk' k => ⟨_, rfl, h h' tk' k⟩))
  · refine compareOp_own_same (fA := 118) rfl ⟨by decide, by decide, by decide, by decide⟩ (own_of Z kx (Z 118 _ rfl) rfl lk_gt fun es ep e => ⟨kc_keys e, kc_ns e (by with_unfolding_all rfl)⟩) ey rfl (by show u < cLine; omega) (wpAny_call (meth_code X T Z (Z 118 _ rfl) m2 K.cg hroom hu (by simp) kx ky hx hy fun h' tk' k => ⟨_, rfl, h h' tk' k⟩))
  · refine compareOp_own_same (fA := 126) rfl ⟨by decide, by decide, by decide, by decide⟩ (own_of Z kx (Z 126 _ rfl) rfl lk_eq fun es ep e => ⟨kc_keys e, kc_ns e (by with_unfolding_all rfl)⟩) ey rfl (by show u < cLine; omega) (wpAny_call (meth_code X T Z (Z 126 _ rfl) m3 K.ce hroom hu (by simp) kx ky hx hy fun h' tk' k => ⟨_, rfl, h h' tk' k⟩))
  · refine compareOp_own_same (fA := 134) rfl ⟨by decide, by decide, by decide, by decide⟩ (own_of Z kx (Z 134 _ rfl) rfl lk_le fun es ep e => ⟨kc_keys e, kc_ns e (by with_unfolding_all rfl)⟩) ey rfl (by show u < cLine; omega) (wpAny_call (meth_code X T Z (Z 134 _ rfl) m4 K.cle hroom hu (by simp) kx ky hx hy fun h' tk' k => ⟨_, rfl, h h' tk' k⟩))
  · refine compareOp_own_same (fA := 142) rfl ⟨by decide, by decide, by decide, by decide⟩ (own_of Z kx (Z 142 _ rfl) rfl lk_ge fun es ep e => ⟨kc_keys e, kc_ns e (by with_unfolding_all rfl)⟩) ey rfl (by show u < cLine; omega) (wpAny_call (meth_code X T Z (Z 142 _ rfl) m5 K.cge hroom hu (by simp) kx ky hx hy fun h' tk' k => ⟨_, rfl, h h' tk' k⟩))
end Mine
end

section
/- part Sx -/
open PySem PySem.W PyProof.Rows PySem.Calls
set_option maxRecDepth 100000
set_option maxHeartbeats 8000000
namespace Mine
section
variable {prog : Program} {w : World} {A : Around} {E : Value → Shared → Prop} {s : Shared}
theorem ln_end {it l : Addr} {i : Nat} {items : Array Value} {Q : Option Value → Shared → Prop} (hh : A.handled = none)
    (hit : s.heap.IsListIter it l i) (hl : s.heap.IsList l items) (hx : items[i]? = none)
    (hQ : ∀ h', Heap.ExtBut it s.heap h' → h'.objs.size = s.heap.objs.size + 2 → Q none { s with heap := h' }) : wpAny (model prog w) A (pyNext (.ref it)) Q E s := by
  obtain ⟨o, ho, hc, hd⟩ := id hit
  obtain ⟨ol, hol, _, nl, hdl⟩ := hl
  unfold pyNext
  refine wpAny_bind (wpAny_attempt (wpAny_callSpecial?_slot (name := Str.ofString "__next__") hit.typeIs slot_listiter_next
    (wpAny_call_entry slot_listiter_next hit.typeIs entry_listiter_next ?_ (args_listiter_next _))))
  show wpAny _ _ (field (.ref it) 0 >>= _) _ _ s
  refine wpAny_bind (wpAny_field ho hd (x := .ref l) rfl ?_)
  show wpAny _ _ (if (Value.ref l == Value.none) = true then _ else _) _ _ s
  rw [if_neg (show ¬ ((Value.ref l == Value.none) = true) from Bool.false_ne_true)]
  show wpAny _ _ (field (.ref it) 1 >>= _) _ _ s
  refine wpAny_bind (wpAny_field ho hd (x := .int i 0) rfl ?_)
  show wpAny _ _ (seqItems? (.ref l) >>= _) _ _ s
  refine wpAny_bind (wpAny_seqItems hol hdl ?_)
  simp only [Int.toNat_natCast, hx]
  refine wpAny_bind (wpAny_rule (wpAny_bind (wpAny_setField ho hd (by simp) ?_)))
  show wpAny _ _ (newExc (.type "StopIteration") [] >>= _) _ _ _
  refine wpAny_bind ?_
  simp only [newExc, newTuple]
  refine wpAny_bind (wpAny_newObj_type ?_ (by size_fits))
  refine wpAny_bind (m := firstArgMember _ _) (wpAny_of_eq (a := Value.none) (by first | rfl | (simp only [firstArgMember]; rfl)) ?_)
  refine wpAny_newObj_type ?_ (by size_fits)
  simp only [raiseNew]
  refine wpAny_bind (wpAny_handled ?_)
  rw [show A.in1.handled = none from hh]
  refine wpAny_bind (wpAny_pure (wpAny_throw ?_))
  refine wpAny_bind (wpAny_isInstance (T := "StopIteration") (b := true) ⟨_, Heap.get?_push_size _ rfl, rfl⟩ isSubtype_stop ?_)
  refine wpAny_pure (hQ _ (((Heap.SameBut.update ..).extBut.push _).push _) ?_)
  rw [Heap.size_push, Heap.size_push]
  exact congrArg (· + 2) (Heap.SameBut.update (h := s.heap) (a := it) ..).1
theorem intAt : ∀ {vs : List Value} {ns : List Int}, IntsAre vs ns → ∀ (i : Nat) (n : Int), ns[i]? = some n → ∃ t, vs[i]? = some (.int n t)
  | _, _, .nil, i, n, e => by simp at e
  | _, _, .cons k t r, 0, n, e => ⟨t, by simp at e; simp [e]⟩
  | _, _, .cons k t r, i + 1, n, e => by simpa using intAt r i n (by simpa using e)
theorem listAt {h h' : Heap} {l : Addr} {items : Array Value} (x : h.IsList l items) (k : ∀ o, h.get? l = some o → h'.get? l = some o) : h'.IsList l items := x.at k
theorem sum_loop {R : Result → Shared → Prop} {it l S : Addr} {vs : List Value} {ns : List Int} (hh : A.handled = none) (hi : IntsAre vs ns) (h1 : it ≠ l) (h2 : S ≠ it) (h3 : S ≠ l) :
    ∀ (k i : Nat) (s : Shared) (a : Int) (tA : Tok) (c : Nat) (st : Int), (st = 0 ∨ st = 2) → ns.length - i = k → i ≤ ns.length → s.heap.IsListIter it l i → s.heap.IsList l vs.toArray → s.heap.get? S = some { cls := .type "list", dict := none, data := .seq #[.int a tA] c, slots := #[] } →
    (∀ h' tk t, (∀ b o, b ≠ S → b ≠ it → s.heap.get? b = some o → h'.get? b = some o) → h'.objs.size = s.heap.objs.size + 2 → R (.ok (.ret (.int (a + (ns.drop i).sum) t))) { s with heap := h', toks := tk }) →
    codeAny (model prog w) A (.builtin "sum.loop" ⟨[.ref it, .ref S, rawInt st, rawInt 0], []⟩) R s := by
  have hlen := hi.length
  intro k
  induction k with
  | zero =>
    intro i s a tA c st hst hk hin hit hl hS hR
    have hi2 : i = ns.length := by omega
    subst hi2
    refine codeAny_builtin F.entry_sum_loop ?_
    rw [Around.under_plainId F.plain_sum_loop _]
    show wpAny _ A.in1 (seqItems? (.ref S) >>= _) _ _ s
    refine wpAny_bind (wpAny_seqItems hS rfl ?_)
    show wpAny _ A.in1 (tryCatch (pyNext (.ref it)) _ >>= _) _ _ s
    refine wpAny_bind (wpAny_tryCatch (ln_end hh hit hl (by simp [hlen]) fun h' he hz => ?_))
    have := hR h' s.toks tA (fun b o _ hb e => he b o hb e) hz
    rw [List.drop_length, List.sum_nil, Int.add_zero] at this
    exact wpAny_pure this
  | succ k ih =>
    intro i s a tA c st hst hk hin hit hl hS hR
    have hlt : i < ns.length := by omega
    obtain ⟨t, ht⟩ := intAt hi i ns[i] (List.getElem?_eq_getElem hlt)
    have hsum : (ns.drop i).sum = ns[i] + (ns.drop (i + 1)).sum := by rw [List.drop_eq_getElem_cons hlt, List.sum_cons]
    rw [hsum] at hR
    generalize ns[i] = b at ht hR hsum
    refine codeAny_builtin F.entry_sum_loop ?_
    rw [Around.under_plainId F.plain_sum_loop _]
    show wpAny _ A.in1 (seqItems? (.ref S) >>= _) _ _ s
    refine wpAny_bind (wpAny_seqItems hS rfl ?_)
    show wpAny _ A.in1 (tryCatch (pyNext (.ref it)) _ >>= _) _ _ s
    refine wpAny_bind (wpAny_tryCatch (wpAny_pyNext_list_item hit hl (x := .int b t) (by simpa using ht) fun h' hit' hs' => ?_))
    have hS' := hs'.extBut S _ h2 hS
    have hl' : h'.IsList l vs.toArray := hl.extBut hs'.extBut (Ne.symm h1)
    have fin : ∀ (g : Heap) (tk : Nat) (tb : Tok) (c' : Nat) (st' : Int), (st' = 0 ∨ st' = 2) → Heap.SameBut S h' g → g.get? S = some { cls := .type "list", dict := none, data := .seq #[.int (a + b) tb] c', slots := #[] } →
        codeAny (model prog w) A (.builtin "sum.loop" ⟨[.ref it, .ref S, rawInt st', rawInt 0], []⟩) R { s with heap := g, toks := tk } := by
      intro g tk tb c' st' hst' hg hgS
      refine ih (i + 1) _ (a + b) tb c' st' hst' (by omega) hlt (hit'.extBut hg.extBut (Ne.symm h2)) (hl'.extBut hg.extBut (Ne.symm h3)) hgS fun h'' tk'' t'' hk'' hz'' => ?_
      have := hR h'' tk'' t'' (fun x o hb hb2 e => hk'' x o hb hb2 (hg.extBut x o hb (hs'.extBut x o hb2 e))) (by rw [hz'']; show g.objs.size + 2 = _; rw [hg.1, hs'.1])
      rw [← Int.add_assoc] at this
      exact this
    rcases hst with rfl | rfl
    · show wpAny _ A.in1 (if (_ : Bool) = true then (mkInt (a + b) >>= _) else _) _ _ _
      split
      · refine wpAny_bind (wpAny_mkInt ?_)
        show wpAny _ A.in1 (updateSeq S (fun _ => #[.int (a + b) s.toks]) >>= _) _ _ _
        refine wpAny_bind (wpAny_updateSeq hS' rfl (wpAny_pure ⟨plainId_quiet F.plain_sum_loop _, ?_⟩))
        exact fin _ _ s.toks _ 0 (.inl rfl) (Heap.SameBut.update ..) (Heap.get?_update_self _ hS' rfl)
      · refine wpAny_bind (wpAny_rule ?_)
        refine wpAny_bind (wpAny_attempt (wpAny_holding (wpAny_add_int ?_)))
        show wpAny _ A.in1 (updateSeq S (fun _ => #[.int (a + b) s.toks]) >>= _) _ _ _
        refine wpAny_bind (wpAny_updateSeq hS' rfl ?_)
        have hS₂ := Heap.get?_update_self (Obj.mapSeq fun _ => #[Value.int (a + b) s.toks]) hS' rfl
        refine wpAny_bind (wpAny_letGo ?_)
        refine wpAny_bind (wpAny_updateSeq hS₂ rfl (wpAny_pure ⟨plainId_quiet F.plain_sum_loop _, ?_⟩))
        exact fin _ _ s.toks _ 2 (.inr rfl) ((Heap.SameBut.update ..).trans (Heap.SameBut.update ..)) (Heap.get?_update_self _ hS₂ rfl)
    · show wpAny _ A.in1 ((holding [Value.int b t] (binaryOp .Add (.int a tA) (.int b t))).attempt >>= _) _ _ _
      refine wpAny_bind (wpAny_attempt (wpAny_holding (wpAny_add_int ?_)))
      show wpAny _ A.in1 (updateSeq S (fun _ => #[.int (a + b) s.toks]) >>= _) _ _ _
      refine wpAny_bind (wpAny_updateSeq hS' rfl ?_)
      have hS₂ := Heap.get?_update_self (Obj.mapSeq fun _ => #[Value.int (a + b) s.toks]) hS' rfl
      refine wpAny_bind (wpAny_letGo ?_)
      refine wpAny_bind (wpAny_updateSeq hS₂ rfl (wpAny_pure ⟨plainId_quiet F.plain_sum_loop _, ?_⟩))
      exact fin _ _ s.toks _ 2 (.inr rfl) ((Heap.SameBut.update ..).trans (Heap.SameBut.update ..)) (Heap.get?_update_self _ hS₂ rfl)
theorem sum_x {l : Addr} {vs : List Value} {ns : List Int} {Q : Value → Shared → Prop} (hh : A.handled = none) (hl : s.heap.IsList l vs.toArray) (hi : IntsAre vs ns)
    (h : ∀ h' tk t, (∀ b o, s.heap.get? b = some o → h'.get? b = some o) → h'.objs.size = s.heap.objs.size + 4 → Q (.int ns.sum t) { s with heap := h', toks := tk }) :
    wpAny (model prog w) A (call (.builtin "sum") [.ref l]) Q E s := by
  refine call_function_tree F.kind_sum F.plain_sum F.entry_sum (F.args_sum1 _) ?_
  unfold Builtin.«sum»
  simp only [List.length_cons, List.length_nil]
  rw [if_neg (by decide)]
  refine wpAny_bind (wpAny_of_eq (show Builtin.Builtins.bindParams "sum" ["start"] 0 { } = pure [none] from rfl) ?_)
  refine wpAny_bind (wpAny_pyIter_list hl ?_)
  refine wpAny_bind (wpAny_mkInt ?_)
  refine wpAny_bind (wpAny_pure ?_)
  simp only [List.forIn_cons, List.forIn_nil]
  refine wpAny_bind (wpAny_bind (wpAny_bind (wpAny_isInstance (T := "int") (b := false) (typeIs_int _ _ _) PySem.sub_int_str ?_)))
  simp only [Bool.false_eq_true, if_false]
  refine wpAny_pure (wpAny_bind (wpAny_bind (wpAny_isInstance (T := "int") (b := false) (typeIs_int _ _ _) PySem.sub_int_bytes ?_)))
  simp only [Bool.false_eq_true, if_false]
  refine wpAny_pure (wpAny_bind (wpAny_bind (wpAny_isInstance (T := "int") (b := false) (typeIs_int _ _ _) PySem.sub_int_bytearray ?_)))
  simp only [Bool.false_eq_true, if_false]
  refine wpAny_pure (wpAny_pure ?_)
  refine wpAny_bind (wpAny_newObj_type ?_)
  obtain ⟨ol, hol, r⟩ := id hl
  have hlt := ltN hol
  have z1 : (s.heap.push { cls := .type "list_iterator", data := .fields #[.ref l, .int 0 0] }).objs.size = s.heap.objs.size + 1 := Heap.size_push ..
  refine wpAny_pure ⟨plainId_quiet F.plain_sum_loop _, ?_⟩
  refine sum_loop (it := s.heap.objs.size) (l := l) (S := (s.heap.push { cls := .type "list_iterator", data := .fields #[.ref l, .int 0 0] }).objs.size) hh hi (Nat.ne_of_gt hlt) (by rw [z1]; exact Nat.succ_ne_self _) (by rw [z1]; exact Nat.ne_of_gt (Nat.lt_succ_of_lt hlt)) ns.length 0 _ 0 s.toks 0 0 (.inl rfl) rfl (Nat.zero_le _)
    ⟨_, Heap.get?_push_of_some _ (Heap.get?_push_size _ rfl), rfl, rfl⟩ ((hl.push _).push _) (Heap.get?_push_size _ rfl) fun h' tk t hk hz => ?_
  rw [List.drop_zero, Int.zero_add]
  refine h h' tk t (fun b o e => hk b o ?_ ?_ (Heap.get?_push_of_some _ (Heap.get?_push_of_some _ e))) ?_
  · rw [z1]; exact Nat.ne_of_lt (Nat.lt_succ_of_lt (ltN e))
  · exact Nat.ne_of_lt (ltN e)
  · rw [hz]
    show (((s.heap.push _).push _).objs.size) + 2 = _
    rw [Heap.size_push, z1]
end
end Mine
end

section
/- part La -/
open PySem PySem.W PyProof.Rows PySem.Calls
set_option maxRecDepth 100000
set_option maxHeartbeats 8000000
namespace Mine
theorem callC_cells {prog : Program} {w : World} {A : Around} {s : Shared} {R : Result → Shared → Prop} {name : Str} {params : Arguments} {body : List Stmt} {scope : Scope} {pm cd doc : Value} {a : Addr} {o : Obj} {arg v : Value} {x : Str}
    (hroom : A.depth < recursionLimit) (ho : s.heap.get? a = some o) (hdata : o.data = .func (Calls.docDef name params body scope pm cd doc)) (hlim : s.heap.NoLimit) (hcd : s.heap.CodeRec cd name)
    (hbind : bindArgs (Calls.docDef name params body scope pm cd doc) ⟨[arg], []⟩ = pure [(x, v)])
    (hx : scope.names.lookup x = some .local)
    (h : ∀ h₁, h₁.Ns s.heap.objs.size (fun y => if y = x then some v else none) → Heap.SameBut s.heap.objs.size (pushCells (s.heap.push { cls := .type "frame", data := .dict #[] }) scope.names) h₁ →
      wpC (model prog w) (A.deeper (envOfC name scope s.heap.objs.size a cd)) (execs body (envOfC name scope s.heap.objs.size a cd))
        (fun f s' => R (.ok (.ret (match f with | .ret v => v | _ => .none))) s') (fun _ _ => False)
        { s with heap := h₁, toks := s.toks + 1 })
    (hco : scope.isCoroutine = false := by rfl) (hgen : scope.isGenerator = false := by rfl) (hk : scope.kind = .function := by rfl) :
    codeC (model prog w) A (.call (.ref a) ⟨[arg], []⟩) R s := by
  refine codeC_of_tree ?_
  show wpC _ A.in1 (callAny (.ref a) _) _ _ s
  simp only [callAny]
  refine wpC_bind (wpC_of (wpAny_load ho ?_))
  obtain ⟨c, oc, vs, tq, hc, hoc, hdc, hq⟩ := hcd
  simp only [hdata, callFunction, hco, hgen, hc]
  show wpC _ _ _ _ _ _
  refine wpC_bind (m := field (.ref c) 1) (wpC_of (wpAny_field hoc hdc hq ?_))
  show wpC _ _ _ _ _ _
  refine wpC_bind (wpC_pure ?_)
  subst hc
  rw [hbind]
  refine wpC_bind (wpC_pure ?_)
  refine wpC_bind (wpC_of ?_)
  simp only [newFunctionEnv, Option.isSome_none, Bool.false_eq_true, if_false]
  refine wpAny_bind (wpAny_alloc ?_)
  refine wpAny_bind (wpAny_layCells _ (fun name kind cells => by cases hkc : kind == NameKind.cell <;> simp [hkc]) _ _ _ _ ?_)
  rw [show ({ s with heap := s.heap.push { cls := .type "frame", data := .dict #[] } } : Shared).heap.objs.size = s.heap.objs.size + 1 from Heap.size_push ..]
  simp only [List.forIn_cons, List.forIn_nil]
  refine wpAny_bind (wpAny_bind (wpAny_bind (wpAny_storeName_local (env := envOfC name scope s.heap.objs.size a (.ref c)) (m := fun _ => none) hx ((Heap.Ns.new s.heap (.type "frame")).keeps (pushCells_keeps _ _)) (fun h₁ hns hsb => wpAny_pure (wpAny_pure (wpAny_pure ?_))) (by show (scope.kind == .class || (scope.kind == .module && _)) = false; rw [hk]; rfl))))
  refine wpC_bind (wpC_of (wpAny_enterFrame ?_ hroom ?_))
  · exact hlim.keeps fun b o e => hsb.extBut b o (Nat.ne_of_lt (ltN e)) (pushCells_keeps _ _ _ _ (Heap.get?_push_of_some _ e))
  show wpC _ _ (match scope.isGenerator, scope.isCoroutine with
    | false, false => again (.func body (envOfC name scope s.heap.objs.size a (.ref c)))
    | true, false => _
    | false, true => _
    | true, true => _) _ _ _
  rw [hgen, hco]
  refine wpC_pure ⟨rfl, rfl, codeC_func ?_⟩
  exact h h₁ hns hsb
theorem cutA {w : World} {A : Around} {s : Shared} {env : Env} {Q : Flow → Shared → Prop} {m : Str → Option Value} {vs : List Value} {l : Addr} {p0 p1 p2 p3 p4 p5 : Pos}
    (hk : env.scope.kind = .function) (k1 : env.kindOf "script" = some .local) (k2 : env.kindOf "cut" = some .local) (hn : s.heap.Ns env.locals m) (hm : m "script" = some (.ref l)) (hl : s.heap.IsList l vs.toArray) (hvl : vs.length ≤ 63) (hne : l ≠ env.locals)
    (h : ∀ h' tk, h'.Ns env.locals (fun y => if y = "cut" then some (.ref (s.heap.objs.size + 1)) else m y) → h'.IsList (s.heap.objs.size + 1) (vs.take 6).toArray → h'.objs.size = s.heap.objs.size + 2 →
      (∀ b o, b ≠ env.locals → s.heap.get? b = some o → h'.get? b = some o) → Q .next { s with heap := h', toks := tk })
    (hs : swapsWith (.Subscript (.Name "script" p1) (.Slice none (some (.Constant (.int 6) 0 p2)) none p3) p4) (some (.Name "cut" p0)) p5.line env = pure false := by rfl) :
    wpAny (model PR w) A (exec (.Assign [.Name "cut" p0] (.Subscript (.Name "script" p1) (.Slice none (some (.Constant (.int 6) 0 p2)) none p3) p4) p5) env) Q (fun _ _ => False) s := by
  rw [exec_Assign_Name _ _ _ _ _ hs]
  refine wpAny_bind (wpAny_standAt (wpAny_bind (wpAny_Subscript_list_slice (nmL hn hm (wpAny_evalPart_none (wpAny_evalPart_some (wpAny_Constant_int ?_))) hk k1))))
  refine ⟨l, vs.toArray, none, some 6, rfl, hl, by rw [sizeLine_eq]; simp; omega, .none, .int _ _, ?_⟩
  have e6 : slicePick vs.toArray none (some 6) none = (vs.take 6).toArray := slicePick_upto' vs.toArray 6
  rw [e6]
  have hlt := nsN hn
  have hns2 := (hn.push { cls := .type "slice", data := .fields #[.none, .int 6 s.toks, .none] }).push { cls := .type "list", data := .seq (vs.take 6).toArray }
  have z1 : (s.heap.push { cls := .type "slice", data := .fields #[.none, .int 6 s.toks, .none] }).objs.size = s.heap.objs.size + 1 := Heap.size_push ..
  refine wpAny_bind (wpAny_standAt (wpAny_bind (wpAny_bindName (wpAny_storeName_local k2 hns2 (fun h₁ hn₁ hs₁ => wpAny_pure ?_) (by rw [hk]; rfl)))))
  refine h h₁ _ hn₁ ?_ ?_ fun b o hb e => hs₁.extBut b o hb (Heap.get?_push_of_some _ (Heap.get?_push_of_some _ e))
  · refine ⟨_, hs₁.extBut _ _ ?_ (z1 ▸ Heap.get?_push_size _ rfl), rfl, 0, rfl⟩
    exact Nat.ne_of_gt (Nat.lt_succ_of_lt hlt)
  · rw [hs₁.1]
    show (((s.heap.push _).push _).objs.size) = _
    rw [Heap.size_push, z1]
end Mine
end

section
/- part Lb -/
open PySem PySem.W PyProof.Rows PySem.Calls
set_option maxRecDepth 100000
set_option maxHeartbeats 8000000
namespace Mine
open LCg in
/-- the comprehension [x % 10 ** 9 for x in cut], with the heap's exact size -/
theorem modComp {w : World} {A : Around} {s : Shared} {env : Env} {Q : Value → Shared → Prop} {m : Str → Option Value} {vs : List Value} {ns : List Int} {l : Addr} {p0 p1 p2 p3 p4 p5 p6 p7 : Pos}
    (hh : A.handled = none) (hk : env.scope.kind = .function) (k1 : env.kindOf "cut" = some .local) (hn : s.heap.Ns env.locals m) (hm : m "cut" = some (.ref l)) (hl : s.heap.IsList l vs.toArray) (hi : IntsAre vs ns) (hvl : vs.length ≤ 6)
    (h : ∀ h' tk ys, h'.get? (s.heap.objs.size + 1) = some (lst ys) → IntsAre ys (ns.map (· % 1000000000)) → h'.objs.size = s.heap.objs.size + 5 →
      (∀ b o, s.heap.get? b = some o → h'.get? b = some o) → Q (.ref (s.heap.objs.size + 1)) { s with heap := h', toks := tk }) :
    wpAny (model PR w) A (eval (.ListComp (.BinOp (.Name "x" p0) .Mod (.BinOp (.Constant (.int 10) 0 p1) .Pow (.Constant (.int 9) 0 p2) p3) p4) [⟨.Name "x" p5, .Name "cut" p6, [], 0⟩] { kind := ScopeKind.function, names := [(".0", .local), ("x", .local)], isGenerator := false, isCoroutine := false } p7) env) Q (fun _ _ => False) s := by
  rw [eval_ListComp]
  refine compA (use := none) (cl := []) (by with_unfolding_all rfl) (by decide) (by rfl) (by decide) (nmL hn hm (wpAny_pyIter_list hl ?_) hk k1)
  intro h₄ hD hN k4 z4
  have z1 : (s.heap.push { cls := .type "list_iterator", data := .fields #[.ref l, .int 0 0] }).objs.size = s.heap.objs.size + 1 := Heap.size_push ..
  dsimp only at hD hN k4 z4 ⊢
  rw [z1] at hD hN z4 ⊢
  obtain ⟨ol, hol, _⟩ := id hl
  have hlS := ltN hol
  generalize hS : s.heap.objs.size = S at *
  have k5 : ∀ b o, s.heap.get? b = some o → h₄.get? b = some o := fun b o e => k4 _ _ (Heap.get?_push_of_some _ e)
  have hit : h₄.IsListIter S l 0 := ⟨_, k4 _ _ (hS ▸ Heap.get?_push_size _ rfl), rfl, rfl⟩
  have hlen := hi.length
  refine loopA (fun k s' => ∃ h tk i ys m, s' = { s with heap := h, toks := tk } ∧ i ≤ ns.length ∧ k = ns.length - i ∧ h.IsListIter S l i ∧ IntsAre ys ((ns.take i).map (· % 1000000000)) ∧ h.objs.size = S + 3 ∧ (∀ b o, s.heap.get? b = some o → h.get? b = some o) ∧ h.get? (S + 1) = some (lst ys) ∧ h.Ns (S + 1 + 1) m) ns.length
    ⟨h₄, s.toks, 0, [], _, rfl, Nat.zero_le _, rfl, hit, .nil, z4, k5, hD, hN⟩ ?_ ?_
  · rintro k s' Q ⟨h, tk, i, ys, m, rfl, hi, rfl, st, _⟩ q
    exact wpAny_pyIter_listiter st q
  · rintro k s' ⟨hh', tk, i, ys, mm, rfl, hin, rfl, st, hy, hz, keep, hD', hN'⟩
    have hl' : hh'.IsList l vs.toArray := hl.at fun o e => keep _ _ e
    by_cases hlt : i < ns.length
    · obtain ⟨t, ht⟩ := intAt hi i ns[i] (List.getElem?_eq_getElem hlt)
      refine wpAny_pyNext_list_item st hl' (x := .int ns[i] t) (by simpa using ht) fun h₁ st₁ hs₁ => ?_
      refine wpAny_of_eq (a := ()) rfl ?_
      refine wpAny_assign_Name (wpAny_storeName_local (by rfl) (hN'.sameBut hs₁ (by show @Ne Nat (S + 1 + 1) S; omega)) (fun h₂ hn₂ hs₂ => ?_) (by rfl))
      refine wpAny_tests_nil ?_
      have up : ∀ b o, b ≠ S → b ≠ S + 1 + 1 → hh'.get? b = some o → h₂.get? b = some o := fun b o b1 b2 e => hs₂.extBut b o b2 (hs₁.extBut b o b1 e)
      have hD₂ : h₂.get? (S + 1) = some (lst ys) := up _ _ (by show @Ne Nat (S + 1) S; omega) (by show @Ne Nat (S + 1) (S + 1 + 1); omega) hD'
      have hz₂ : h₂.objs.size = S + 3 := by rw [hs₂.1]; show h₁.objs.size = _; rw [hs₁.1]; exact hz
      have fin : ∀ tk t', wpAny (model PR w) A (call (.builtin "list.append") [.ref (S + 1), .int (ns[i] % 1000000000) t']) (fun _ s₅ => Less (fun k s' => ∃ h tk i ys m, s' = { s with heap := h, toks := tk } ∧ i ≤ ns.length ∧ k = ns.length - i ∧ h.IsListIter S l i ∧ IntsAre ys ((ns.take i).map (· % 1000000000)) ∧ h.objs.size = S + 3 ∧ (∀ b o, s.heap.get? b = some o → h.get? b = some o) ∧ h.get? (S + 1) = some (lst ys) ∧ h.Ns (S + 1 + 1) m) (ns.length - i) s₅) (fun _ _ => False) { s with heap := h₂, toks := tk } := by
        intro tk t'
        have hyl := hy.length
        have hsz : ys.toArray.size ≤ sizeLine := by rw [sizeLine_eq]; simp at hyl ⊢; omega
        refine append_at (hsz := hsz) hD₂ fun h₃ hs₃ hD₃ => ?_
        refine ⟨ns.length - (i + 1), by omega, h₃, tk, i + 1, ys ++ [_], _, rfl, hlt, rfl, (st₁.extBut hs₂.extBut (by show @Ne Nat S (S + 1 + 1); omega)).extBut hs₃.extBut (by show @Ne Nat S (S + 1); omega), ?_, by rw [hs₃.1]; exact hz₂, fun b o e => hs₃.extBut b o ?_ (up b o ?_ ?_ (keep b o e)), hD₃.trans (congrArg some (lst_snoc ys _)), hn₂.sameBut hs₃ (by show @Ne Nat (S + 1 + 1) (S + 1); omega)⟩
        · rw [List.take_add_one, List.getElem?_eq_getElem hlt, List.map_append]
          exact ksk_snoc hy
        · have := ltN e; show @Ne Nat b (S + 1); omega
        · have := ltN e; show @Ne Nat b S; omega
        · have := ltN e; show @Ne Nat b (S + 1 + 1); omega
      refine wpAny_BinOp (nmL hn₂ (if_pos rfl) ?_)
      repeat' (first | walk1 | (dsimp only; walk1))
      have em : ns[i].fmod (10 ^ Int.toNat 9) = ns[i] % 1000000000 := Int.fmod_eq_emod_of_nonneg _ (by decide)
      rw [em]
      exact fin _ _
    · obtain rfl : i = ns.length := by omega
      refine ln_end hh st hl' (by simp [hlen]) fun h₁ he₁ hz₁ => ?_
      refine ⟨mm, hN'.at' fun o e => he₁ _ _ (by show @Ne Nat (S + 1 + 1) S; omega) e, fun h' hs' => ?_⟩
      rw [List.take_length] at hy
      refine h h' _ ys (hs'.extBut _ _ (by show @Ne Nat (S + 1) (S + 1 + 1); omega) (he₁ _ _ (by show @Ne Nat (S + 1) S; omega) hD')) hy ?_ fun b o e => hs'.extBut _ _ ?_ (he₁ _ _ ?_ (keep _ _ e))
      · rw [hs'.1]; show h₁.objs.size = _; rw [hz₁]; show hh'.objs.size + 2 = _; rw [hz]
      · have := ltN e; show @Ne Nat b (S + 1 + 1); omega
      · have := ltN e; show @Ne Nat b S; omega
theorem litList {M : Model} {A : Around} {E : Value → Shared → Prop} {env : Env} {pos : Pos} : ∀ (es : List (Int × Pos)) (s : Shared) (Q : List Value → Shared → Prop),
    (∀ vs tk, IntsAre vs (es.map (·.1)) → Q vs { s with toks := tk }) → wpAny M A (spliced (backTo pos (starEach (es.map fun e => PySem.Expr.Constant (.int e.1) 0 e.2) env))) Q E s
  | [], s, Q, h => spliced_none (h [] s.toks .nil)
  | e :: r, s, Q, h => spliced_more (wpAny_Constant_int (litList r _ _ fun vs tk hv => h _ _ (.cons _ _ hv)))
open LCg in
theorem numbersA {w : World} {A : Around} {s : Shared} {env : Env} {Q : Flow → Shared → Prop} {m : Str → Option Value} {vs : List Value} {ns : List Int} {l c : Addr} {p0 p1 p2 p3 p4 p5 p6 p7 p8 p9 : Pos} {q0 q1 q2 q3 q4 q5 q6 q7 pp : Pos}
    (hh : A.handled = none) (hk : env.scope.kind = .function) (k1 : env.kindOf "cut" = some .local) (k2 : env.kindOf "numbers" = some .cell) (kc : env.cells.lookup ("numbers" : Str) = some c) (hn : s.heap.Ns env.locals m) (hm : m "cut" = some (.ref l)) (hl : s.heap.IsList l vs.toArray) (hi : IntsAre vs ns) (hvl : vs.length ≤ 6)
    (hcell : s.heap.IsCell c none)
    (h : ∀ h' tk ys D, h'.get? D = some { cls := .type "list", data := .seq (List.toArray ys) } → IntsAre ys (ns.map (· % 1000000000) ++ [0, 25, 26, 35, 35, 36, 1000]) → h'.objs.size = s.heap.objs.size + 7 → h'.IsCell c (some (.ref D)) → s.heap.objs.size ≤ D →
      (∀ b o, b ≠ c → s.heap.get? b = some o → h'.get? b = some o) → Q .next { s with heap := h', toks := tk })
    (hs : swapsWith (.BinOp (.ListComp (.BinOp (.Name "x" p0) .Mod (.BinOp (.Constant (.int 10) 0 p1) .Pow (.Constant (.int 9) 0 p2) p3) p4) [⟨.Name "x" p5, .Name "cut" p6, [], 0⟩] { kind := ScopeKind.function, names := [(".0", .local), ("x", .local)], isGenerator := false, isCoroutine := false } p7) .Add
        (.List [.Constant (.int 0) 0 q0, .Constant (.int 25) 0 q1, .Constant (.int 26) 0 q2, .Constant (.int 35) 0 q3, .Constant (.int 35) 0 q4, .Constant (.int 36) 0 q5, .Constant (.int 1000) 0 q6] q7) p8) (some (.Name "numbers" p9)) pp.line env = pure false := by rfl) :
    wpAny (model PR w) A (exec (.Assign [.Name "numbers" p9] (.BinOp (.ListComp (.BinOp (.Name "x" p0) .Mod (.BinOp (.Constant (.int 10) 0 p1) .Pow (.Constant (.int 9) 0 p2) p3) p4) [⟨.Name "x" p5, .Name "cut" p6, [], 0⟩] { kind := ScopeKind.function, names := [(".0", .local), ("x", .local)], isGenerator := false, isCoroutine := false } p7) .Add
        (.List [.Constant (.int 0) 0 q0, .Constant (.int 25) 0 q1, .Constant (.int 26) 0 q2, .Constant (.int 35) 0 q3, .Constant (.int 35) 0 q4, .Constant (.int 36) 0 q5, .Constant (.int 1000) 0 q6] q7) p8) pp) env) Q (fun _ _ => False) s := by
  rw [exec_Assign_Name _ _ _ _ _ hs]
  refine wpAny_bind (wpAny_standAt (wpAny_bind (wpAny_BinOp (modComp hh hk k1 hn hm hl hi hvl fun h₁ tk₁ ys hD hy hz keep => ?_))))
  refine List_ (litList [(0, q0), (25, q1), (26, q2), (35, q3), (35, q4), (36, q5), (1000, q6)] _ _ fun ws tk₂ hw => ?_)
  have hwl := hw.length
  have hyl := hy.length
  refine wpAny_newList ?_ (by rw [hwl, sizeLine_eq]; exact Nat.le_of_ble_eq_true rfl)
  have hyl2 : ys.length ≤ 6 := by rw [hyl, List.length_map, ← hi.length]; exact hvl
  have z2 : (h₁.push { cls := .type "list", data := .seq ws.toArray }).objs.size = s.heap.objs.size + 6 := by rw [Heap.size_push, hz]
  refine PySem.P.add_list (n := ys.length) (n2 := 0) (items := ys.toArray) (items2 := ws.toArray) (Heap.get?_push_of_some _ hD) (Heap.get?_push_size _ rfl) ?_ (by rw [sizeLine_eq]; simp [hwl]; omega)
  dsimp only
  have hcl : c < s.heap.objs.size := hcell.lt
  refine wpAny_bind (wpAny_standAt (wpAny_bind (wpAny_bindName (wpAny_storeName_cell hk k2 kc ((hcell.keeps keep).keeps fun b o e => Heap.get?_push_of_some _ (Heap.get?_push_of_some _ e)) fun h₅ hc₅ hs₅ => wpAny_pure ?_))))
  rw [z2] at hc₅
  refine h h₅ _ (ys ++ ws) (s.heap.objs.size + 6) ?_ (hy.append hw) ?_ hc₅ (by omega) fun b o hb e => hs₅.extBut b o hb (Heap.get?_push_of_some _ (Heap.get?_push_of_some _ (keep _ _ e)))
  · refine hs₅.extBut _ _ (Nat.ne_of_gt (Nat.lt_of_lt_of_le hcl (Nat.le_add_right _ 6))) ?_
    have e : (ys ++ ws).toArray = ys.toArray ++ ws.toArray := by simp
    rw [e, ← z2]
    exact Heap.get?_push_size _ rfl
  · rw [hs₅.1]
    show (((h₁.push _).push _).objs.size) = _
    rw [Heap.size_push, z2]
end Mine
end

section
/- part Lc -/
open PySem PySem.W PyProof.Rows PySem.Calls
set_option maxRecDepth 100000
set_option maxHeartbeats 8000000
namespace Mine
/-- a code table has grown -/
def Grew (h h' : Heap) (a : Addr) : Prop := ∃ c ps more, h.TableAt c a ps ∧ h'.get? a = some (X.tableObj (ps ++ more))
/-- what the making of the class leaves -/
def Made (s₂ : Shared) (v : Value) (s' : Shared) : Prop := (∃ h tk, s' = { s₂ with heap := h, toks := tk }) ∧ v = .ref 146 ∧ KIs s'.heap ∧ s'.heap.objs.size = 150 ∧ (∀ b o, b ≠ 37 → s₂.heap.get? b = some o → s'.heap.get? b = some o) ∧ Grew s₂.heap s'.heap 37
theorem lookup_mem {K : Frag} {a : Addr} {o : Obj} (e : K.lookup a = some o) : (a, o) ∈ K := by
  induction K with
  | nil => cases e
  | cons p r ih =>
    rw [List.lookup_cons] at e
    cases q : a == p.1 with
    | true =>
      rw [q] at e
      cases e
      rw [eq_of_beq q]
      exact List.mem_cons_self
    | false =>
      rw [q] at e
      exact List.mem_cons_of_mem _ (ih e)
theorem kc_hi {z : KP} {a : Addr} {o : Obj} (e : (KC z).lookup a = some o) : 86 ≤ a := by
  have hp := lookup_mem e
  unfold KC at hp
  simp only [List.mem_cons, List.not_mem_nil, or_false, Prod.mk.injEq] at hp
  rcases hp with h | h | h | h | h | h | h | h | h | h <;> (rw [h.1]; exact Nat.le_of_ble_eq_true rfl)
theorem rec_hi {h h' : Heap} {c : Addr} {q : Str} (hc : 86 ≤ c) (x : h.CodeRec (.ref c) q) (k : ∀ b o, 86 ≤ b → h.get? b = some o → h'.get? b = some o) : h'.CodeRec (.ref c) q := by
  obtain ⟨c', o, vs, t, e, g, r⟩ := x
  cases e
  exact ⟨c, o, vs, t, rfl, k _ _ hc g, r⟩
theorem KIs.hi {h h' : Heap} (x : KIs h) (k : ∀ b o, 86 ≤ b → h.get? b = some o → h'.get? b = some o) : KIs h' :=
  ⟨let ⟨z, a, r⟩ := x.frag; ⟨z, fun b o e => k b o (kc_hi e) (a b o e), r⟩, rec_hi (by decide) x.ci k, rec_hi (by decide) x.cl k, rec_hi (by decide) x.cg k, rec_hi (by decide) x.ce k, rec_hi (by decide) x.cle k, rec_hi (by decide) x.cge k⟩
theorem biasA {w : World} {A : Around} {s : Shared} {Q : Flow → Shared → Prop} {g : Heap} {m : Str → Option Value} {cn : Str} {cs : Scope} {L a : Addr} {ccd : Value} {cl : List (Str × Addr)} {p : Program} {loose : List Str} {mean : ExcName → Option Value} {mg mb : Str → Option Value}
    {vs : List Value} {ns : List Int} {l cb ck : Addr} {p0 p1 p2 p3 p4 p5 p6 p7 p8 p9 p10 p11 p12 : Pos}
    (hh : A.handled = none) (F : Fr g L s.heap m) (X : (hd.heap_1 w.params).In g) (T : Top p loose mean mg mb g) (hk : cs.kind = .function)
    (k1 : (envX cn cs L a ccd cl).kindOf "cut" = some .local) (k2 : (envX cn cs L a ccd cl).kindOf "sum" = some .globalImplicit) (k3 : (envX cn cs L a ccd cl).kindOf "cmp_to_key" = some .globalImplicit) (k4 : (envX cn cs L a ccd cl).kindOf "_law_compare" = some .globalImplicit)
    (k5 : (envX cn cs L a ccd cl).kindOf "bias" = some .cell) (k6 : (envX cn cs L a ccd cl).kindOf "key" = some .cell) (c5 : cl.lookup ("bias" : Str) = some cb) (c6 : cl.lookup ("key" : Str) = some ck)
    (hm : m "cut" = some (.ref l)) (hl : s.heap.IsList l vs.toArray) (hi : IntsAre vs ns) (hcb : s.heap.IsCell cb none) (hck : s.heap.IsCell ck none) (hne : cb ≠ ck) (h37 : cb ≠ 37 ∧ ck ≠ 37)
    (hsz : s.heap.objs.size = 82)
    (cls : ∀ h₂ tk, (∀ b o, s.heap.get? b = some o → h₂.get? b = some o) → h₂.objs.size = 86 → wpAny (model PR w) A (call (.ref 42) [.ref 47]) (Made { s with heap := h₂, toks := tk }) (fun _ _ => False) { s with heap := h₂, toks := tk })
    (h : ∀ h₂ h' tk t, (∀ b o, s.heap.get? b = some o → h₂.get? b = some o) → Grew h₂ h' 37 → KIs h' → h'.IsCell cb (some (.int (ns.sum % 200) t)) → h'.IsCell ck (some (.ref 146)) → (∀ b o, b ≠ 37 → b ≠ cb → b ≠ ck → s.heap.get? b = some o → h'.get? b = some o) → Q .next { s with heap := h', toks := tk })
    (hs : swapsWithSole [.Tuple [.Name "bias" p0, .Name "key" p1] 0 p2] (.Tuple [.BinOp (.Call (.Name "sum" p3) [.Name "cut" p4] [] p5) .Mod (.Constant (.int 200) 0 p6) p7, .Call (.Name "cmp_to_key" p8) [.Name "_law_compare" p9] [] p10] 0 p11) p12.line (envX cn cs L a ccd cl) = pure false := by rfl)
    (hw : swappedStores [.Tuple [.Name "bias" p0, .Name "key" p1] 0 p2] (.Tuple [.BinOp (.Call (.Name "sum" p3) [.Name "cut" p4] [] p5) .Mod (.Constant (.int 200) 0 p6) p7, .Call (.Name "cmp_to_key" p8) [.Name "_law_compare" p9] [] p10] 0 p11) (envX cn cs L a ccd cl) = pure none := by rfl) :
    wpAny (model PR w) A (exec (.Assign [.Tuple [.Name "bias" p0, .Name "key" p1] 0 p2] (.Tuple [.BinOp (.Call (.Name "sum" p3) [.Name "cut" p4] [] p5) .Mod (.Constant (.int 200) 0 p6) p7, .Call (.Name "cmp_to_key" p8) [.Name "_law_compare" p9] [] p10] 0 p11) p12) (envX cn cs L a ccd cl)) Q (fun _ _ => False) s := by
  obtain ⟨o42, fd42, e42, d42⟩ : ∃ o fd, g.get? 42 = some o ∧ o.data = .func fd := ⟨_, _, X 42 _ rfl, rfl⟩
  refine Assign_Tuple (Tuple_ (spliced_more (wpAny_BinOp (Call_ (nameX_B F X (topRead_of T) (by rfl) PyProof.Rows.Boot.sum (by decide) ?_ hk k2))))) hs hw
  refine callWith_builtin1 (args_cons (nameX_L F hm (args_nil ?_) hk k1))
  refine sum_x hh hl hi fun h₁ tk₁ t₁ keep₁ z₁ => ?_
  refine wpAny_Constant_int ?_
  have F₁ : Fr g L h₁ m := F.keeps keep₁
  have go : ∀ tk t', wpAny (model PR w) A (spliced (backTo p11 (starEach [.Call (.Name "cmp_to_key" p8) [.Name "_law_compare" p9] [] p10] (envX cn cs L a ccd cl)))) (fun vs s₂ => wpAny (model PR w) A (newTuple (.int (ns.sum % 200) t' :: vs)) (fun v s₁ => wpAny (model PR w) A (assign (.Tuple [.Name "bias" p0, .Name "key" p1] 0 p2) (envX cn cs L a ccd cl) v) (fun _ => Q .next) (fun _ _ => False) s₁) (fun _ _ => False) s₂) (fun _ _ => False) { s with heap := h₁, toks := tk } := by
    intro tk t'
    refine spliced_more (Call_ (nameX_K (s := { s with heap := h₁, toks := tk }) F₁ X (topRead_of T) (by rfl) (cwFun1A d42 (args_cons (nameX_K (s := { s with heap := h₁, toks := tk }) F₁ X (topRead_of T) (by rfl) (args_nil ⟨F₁.keep _ _ e42, ?_⟩) hk k4))) hk k3))
    refine wpAny_mono (cls h₁ tk keep₁ (by rw [z₁, hsz])) (fun v s₂ hv => ?_) fun _ _ q => q
    obtain ⟨⟨h₂, tk₂, rfl⟩, rfl, hK, z₂, keep₂, hG⟩ := hv
    refine spliced_none (wpAny_newTuple ?_)
    have keep₂' : ∀ b o, b ≠ 37 → s.heap.get? b = some o → h₂.get? b = some o := fun b o hb e => keep₂ b o hb (keep₁ _ _ e)
    refine assign_Tuple_tuple hh ⟨_, Heap.get?_push_size _ rfl, rfl, _, rfl⟩ rfl rfl fun h₃ he₃ => ?_
    have k3 : ∀ b o, h₂.get? b = some o → h₃.get? b = some o := fun b o e => he₃ b o (Nat.ne_of_lt (by show b < _; rw [Heap.size_push]; exact Nat.lt_succ_of_lt (ltN e))) (Heap.get?_push_of_some _ e)
    have hcb₃ : h₃.IsCell cb none := let ⟨o, e, d⟩ := hcb; ⟨o, k3 _ _ (keep₂' _ _ h37.1 e), d⟩
    have hck₃ : h₃.IsCell ck none := let ⟨o, e, d⟩ := hck; ⟨o, k3 _ _ (keep₂' _ _ h37.2 e), d⟩
    refine assignInOrder_cons (wpAny_assign_Name (wpAny_storeName_cell hk k5 c5 hcb₃ fun h₄ hc₄ hs₄ => ?_))
    refine assignInOrder_cons (wpAny_assign_Name (wpAny_storeName_cell hk k6 c6 (hck₃.sameBut hs₄ (Ne.symm hne)) fun h₅ hc₅ hs₅ => ?_))
    refine assignInOrder_nil ?_
    have up : ∀ b o, b ≠ cb → b ≠ ck → h₂.get? b = some o → h₅.get? b = some o := fun b o b1 b2 e => hs₅.extBut b o b2 (hs₄.extBut b o b1 (k3 _ _ e))
    refine h h₁ h₅ _ t' keep₁ ?_ ?_ (hc₄.sameBut hs₅ hne) hc₅ fun b o b1 b2 b3 e => up b o b2 b3 (keep₂' b o b1 e)
    · obtain ⟨c, ps, more, ht, hg⟩ := hG
      exact ⟨c, ps, more, ht, up _ _ (Ne.symm h37.1) (Ne.symm h37.2) hg⟩
    · have l1 : cb < s.heap.objs.size := hcb.lt
      have l2 : ck < s.heap.objs.size := hck.lt
      rw [hsz] at l1 l2
      exact hK.hi fun b o hb e => up b o (Nat.ne_of_gt (Nat.lt_of_lt_of_le l1 (Nat.le_trans (by decide) hb))) (Nat.ne_of_gt (Nat.lt_of_lt_of_le l2 (Nat.le_trans (by decide) hb))) e
  have em : ns.sum.fmod 200 = ns.sum % 200 := Int.fmod_eq_emod_of_nonneg _ (by decide)
  walk1
  rw [em]
  exact go _ _
end Mine
end

section
/- part Ld -/
open PySem PySem.W PyProof.Rows PySem.Calls
set_option maxRecDepth 100000
set_option maxHeartbeats 8000000
namespace Mine
section
variable {M : Model} {A : Around} {E : Value → Shared → Prop} {s : Shared} {env : Env}
theorem assignTupleSwC {elts : List Expr} {k : Nat} {tpos pos : Pos} {value : Expr} {names : List Str} {Q : Flow → Shared → Prop}
    (h : wpC M A (eval value env) (fun v s₁ => wpAny M A (unpackItems v names.length none) (fun items s₂ =>
      wpAny M A (assignInOrder (names.reverse.map fun n => bindName env n) items.reverse) (fun _ => Q .next) E s₂) E s₁) E s)
    (hs : swapsWithSole [.Tuple elts k tpos] value pos.line env = pure false := by rfl)
    (hw : swappedStores [.Tuple elts k tpos] value env = pure (some names) := by rfl) :
    wpC M A (exec (.Assign [.Tuple elts k tpos] value pos) env) Q E s := by
  rw [exec_Assign]
  refine wpC_bind (wpC_standAt ?_)
  rw [hs]
  refine wpC_bind (wpC_pure ?_)
  rw [if_neg (by decide)]
  refine wpC_bind (wpC_mono h (fun v s₁ h₁ => ?_) fun _ _ x => x)
  rw [hw]
  refine wpC_bind (wpC_pure (wpC_of ?_))
  show wpAny M A (do rule "assign.swapped-stores"; let items ← unpackItems v names.length none; assignInOrder (names.reverse.map fun n => bindName env n) items.reverse; pure .next) Q E s₁
  exact wpAny_bind (wpAny_rule (wpAny_bind (wpAny_mono h₁ (fun items s₂ h₂ => wpAny_bind (wpAny_mono h₂ (fun _ _ x => wpAny_pure x) fun _ _ x => x)) fun _ _ x => x)))
theorem tupleC {elts : List Expr} {k : Nat} {pos : Pos} {Q : Value → Shared → Prop}
    (h : wpC M A (spliced (backTo pos (starEach elts env))) (fun vs s₁ => wpAny M A (newTuple vs) Q E s₁) E s) : wpC M A (eval (.Tuple elts k pos) env) Q E s := by
  show wpC M A (do standAt pos; newTuple (← spliced (backTo pos (starEach elts env)))) Q E s
  exact wpC_bind (wpC_standAt (wpC_bind (wpC_mono h (fun _ _ x => wpC_of x) fun _ _ x => x)))
theorem splicedC {e : Expr} {rest : List Expr} {pos : Pos} {Q : List Value → Shared → Prop}
    (h : wpC M A (eval e env) (fun v s₁ => wpAny M A (spliced (backTo pos (starEach rest env))) (fun vs s₂ => Q (v :: vs) s₂) E s₁) E s)
    (he : starEach (e :: rest) env = (false, eval e env) :: starEach rest env := by rfl) : wpC M A (spliced (backTo pos (starEach (e :: rest) env))) Q E s := by
  rw [he]
  show wpC M A (spliced ((false, eval e env) :: backTo pos (starEach rest env))) Q E s
  rw [spliced]
  refine wpC_bind (wpC_mono h (fun v s₁ h₁ => ?_) fun _ _ x => x)
  simp only [Bool.false_eq_true, if_false]
  exact wpC_of (wpAny_bind (wpAny_pure (wpAny_bind (wpAny_holding (wpAny_mono h₁ (fun vs s₂ h₂ => wpAny_pure h₂) fun _ _ x => x)))))
end
open LCg in
/-- the turns of a list comprehension over a list -/
theorem oneLoopC {prog : Program} {w : World} {A : Around} {s : Shared} {env : Env} {R : Result → Shared → Prop} {elt iter : Expr} {x : Str} {px : Pos} {scope : Scope} {pos : Pos} {I D l : Addr} {items : List Value}
    (J : Nat → List Value → Heap → Prop) (hh : A.handled = none)
    (hx : env.kindOf x = some .local) (hp : (env.scope.kind == .class || (env.scope.kind == .module && env.locals != env.globals)) = false)
    (hCD : env.locals ≠ D) (hCI : env.locals ≠ I) (hDI : D ≠ I) (hlo : l ≠ D ∧ l ≠ env.locals ∧ l ≠ I) (hl : s.heap.IsList l items.toArray) (hn : items.length ≤ 1000) (hJl : ∀ i ys h, J i ys h → ys.length ≤ 1000)
    (hJ : ∀ i ys h h', J i ys h → (∀ b o, b ∉ [D, env.locals, I] → h.get? b = some o → h'.get? b = some o) → J i ys h')
    (turn : ∀ i ys h tk m v, items[i]? = some v → J i ys h → (∀ b o, b ∉ [D, env.locals, I] → s.heap.get? b = some o → h.get? b = some o) → h.Ns env.locals m → m x = some v → (∃ o, h.get? D = some o) → (∃ o, h.get? I = some o) →
      wpC (model prog w) A (eval elt env) (fun y s₄ => ∃ h' tk', s₄ = { s with heap := h', toks := tk' } ∧ (∀ b o, h.get? b = some o → h'.get? b = some o) ∧ J (i + 1) (ys ++ [y]) h') (fun _ _ => False) { s with heap := h, toks := tk })
    (done : ∀ h tk ys m, J items.length ys h → (∀ b o, b ∉ [D, env.locals, I] → s.heap.get? b = some o → h.get? b = some o) → h.get? D = some (lst ys) → h.Ns env.locals m → R (.ok .next) { s with heap := h, toks := tk })
    (st0 : s.heap.IsListIter I l 0) (j0 : J 0 [] s.heap) (d0 : s.heap.get? D = some (lst [])) {m₀ : Str → Option Value} (n0 : s.heap.Ns env.locals m₀) :
    codeC (model prog w) A (.compStart (.ListComp elt [⟨.Name x px, iter, [], 0⟩] scope pos) 0 (.ref I) (.ref D) env) R s := by
  have hlow : l ∉ [D, env.locals, I] := by simp [hlo.1, hlo.2.1, hlo.2.2]
  refine loopC (fun k s' => ∃ h tk i ys m, s' = { s with heap := h, toks := tk } ∧ i ≤ items.length ∧ k = items.length - i ∧ h.IsListIter I l i ∧ J i ys h ∧ (∀ b o, b ∉ [D, env.locals, I] → s.heap.get? b = some o → h.get? b = some o) ∧ h.get? D = some (lst ys) ∧ h.Ns env.locals m) items.length
    ⟨s.heap, s.toks, 0, [], m₀, rfl, Nat.zero_le _, rfl, st0, j0, fun _ _ _ e => e, d0, n0⟩ ?_ ?_
  · rintro k s' Q ⟨h, tk, i, ys, m, rfl, hi, rfl, st, _⟩ q
    exact wpAny_pyIter_listiter st q
  · rintro k s' ⟨h, tk, i, ys, m, rfl, hi, rfl, st, j, keep, hD, hN⟩
    have hl' : h.IsList l items.toArray := hl.at fun o e => keep _ _ hlow e
    by_cases hlt : i < items.length
    · refine wpAny_pyNext_list_item st hl' (x := items[i]) (by simp [hlt]) fun h₁ st₁ hs₁ => ?_
      refine wpAny_of_eq (a := ()) rfl ?_
      refine wpAny_assign_Name (wpAny_storeName_local hx (hN.sameBut hs₁ hCI) (fun h₃ hN₃ hs₃ => ?_) hp)
      refine wpAny_tests_nil ?_
      have up : ∀ b o, b ∉ [D, env.locals, I] → h.get? b = some o → h₃.get? b = some o := fun b o hb e => by
        simp only [List.mem_cons, List.not_mem_nil, or_false, not_or] at hb
        exact hs₃.extBut b o hb.2.1 (hs₁.extBut b o hb.2.2 e)
      have hD₃ : h₃.get? D = some (lst ys) := hs₃.extBut _ _ (Ne.symm hCD) (hs₁.extBut _ _ hDI hD)
      have st₃ : h₃.IsListIter I l (i + 1) := st₁.extBut hs₃.extBut (Ne.symm hCI)
      have j₃ := hJ _ _ _ _ j up
      have keep₃ : ∀ b o, b ∉ [D, env.locals, I] → s.heap.get? b = some o → h₃.get? b = some o := fun b o hb e => up b o hb (keep b o hb e)
      simp only [if_true]
      refine wpC_mono (turn i ys h₃ _ _ items[i] (List.getElem?_eq_getElem hlt) j₃ keep₃ hN₃ (if_pos rfl) ⟨_, hD₃⟩ (let ⟨o, e, _⟩ := st₃; ⟨o, e⟩)) (fun v s₄ h₄' => ?_) fun _ _ e => e
      obtain ⟨h₅, tk₅, rfl, hk₅, j₅⟩ := h₄'
      have hsz : ys.toArray.size ≤ sizeLine := by
        have := hJl _ _ _ j
        rw [sizeLine_eq]; simp; omega
      refine append_at (hsz := hsz) (hk₅ _ _ hD₃) fun h₆ hs₆ hD₆ => ?_
      have up₆ : ∀ b o, b ≠ D → h₅.get? b = some o → h₆.get? b = some o := fun b o hb e => hs₆.extBut b o hb e
      refine ⟨items.length - (i + 1), by omega, h₆, tk₅, i + 1, ys ++ [v], _, rfl, hlt, rfl, st₃.at fun o e => up₆ _ _ (Ne.symm hDI) (hk₅ _ _ e), hJ _ _ _ _ j₅ fun b o hb e => up₆ b o (fun q => hb (by simp [q])) e,
        fun b o hb e => up₆ b o (fun q => hb (by simp [q])) (hk₅ b o (keep₃ b o hb e)), hD₆.trans (congrArg some (lst_snoc ys v)), (hN₃.at' fun o e => hk₅ _ _ e).sameBut hs₆ hCD⟩
    · obtain rfl : i = items.length := by omega
      refine wpAny_pyNext_list_end hh st hl' (by simp) fun h₁ he₁ => ?_
      have up : ∀ b o, b ∉ [D, env.locals, I] → h.get? b = some o → h₁.get? b = some o := fun b o hb e => by
        simp only [List.mem_cons, List.not_mem_nil, or_false, not_or] at hb
        exact he₁ _ _ hb.2.2 e
      exact done h₁ _ ys m (hJ _ _ _ _ j up) (fun b o hb e => up b o hb (keep b o hb e)) (he₁ _ _ hDI hD) (hN.at' fun o e => he₁ _ _ hCI e)
end Mine
end

section
/- part Le -/
open PySem PySem.W PyProof.Rows PySem.Calls
set_option maxRecDepth 100000
set_option maxHeartbeats 8000000
namespace Mine
open LCg in
/-- a list comprehension over a list -/
theorem compListC {w : World} {A : Around} {s : Shared} {env : Env} {Q : Value → Shared → Prop} {elt iter : Expr} {x : Str} {px : Pos} {scope : Scope} {cl : List (Str × Addr)} {pos pos' : Pos} {l : Addr} {items : List Value} {use : Option (Value → Sem Unit)}
    (J : Nat → List Value → Heap → Prop) (hh : A.handled = none) (hclos : closureFor scope env = pure cl) (hcell : ∀ y ∈ scope.names, y.2 ≠ .cell) (hkind : scope.kind = .function) (hnames : ∀ x ∈ scope.names, x.2 = .local → scope.names.lookup x.1 = some .local)
    (hx : scope.names.lookup x = some .local) (hl : s.heap.IsList l items.toArray) (hn : items.length ≤ 1000) (hJl : ∀ i ys h, J i ys h → ys.length ≤ 1000)
    (hJ0 : ∀ h, (∀ b o, s.heap.get? b = some o → h.get? b = some o) → J 0 [] h)
    (hJ : ∀ i ys h h', J i ys h → (∀ b o, b < s.heap.objs.size ∨ s.heap.objs.size + 3 ≤ b → h.get? b = some o → h'.get? b = some o) → J i ys h')
    (turn : ∀ i ys h tk m v, items[i]? = some v → J i ys h → (∀ b o, s.heap.get? b = some o → h.get? b = some o) → h.Ns (s.heap.objs.size + 2) m → m x = some v → (∀ b, s.heap.objs.size ≤ b → b < s.heap.objs.size + 3 → ∃ o, h.get? b = some o) →
      wpC (model PR w) A (eval elt (compEnvC scope cl (s.heap.objs.size + 2) env)) (fun y s₄ => ∃ h' tk', s₄ = { s with heap := h', toks := tk' } ∧ (∀ b o, h.get? b = some o → h'.get? b = some o) ∧ J (i + 1) (ys ++ [y]) h') (fun _ _ => False) { s with heap := h, toks := tk })
    (fin : ∀ h tk ys m, J items.length ys h → (∀ b o, s.heap.get? b = some o → h.get? b = some o) → h.get? (s.heap.objs.size + 1) = some (lst ys) → h.Ns (s.heap.objs.size + 2) m →
      CPostC (model PR w) A use Q (s.heap.objs.size + 1) (s.heap.objs.size + 2) (.ok .next) { s with heap := h, toks := tk })
    (hs : ∀ x, foldedSetIterable iter env x = pure x := by intro _; rfl)
    (hiter : ∀ (Q' : Value → Shared → Prop), Q' (.ref l) s → wpAny (model PR w) A (eval iter env) Q' (fun _ _ => False) s) :
    wpC (model PR w) A (comprehension (.ListComp elt [⟨.Name x px, iter, [], 0⟩] scope pos) scope env pos' (newList []) false (eval iter env) use) Q (fun _ _ => False) s := by
  refine compC (use := use) hclos hcell hkind hnames (hiter _ (wpAny_pyIter_list hl ?_)) hs
  intro h₄ hD hN k4 z4
  have z1 : (s.heap.push { cls := .type "list_iterator", data := .fields #[.ref l, .int 0 0] }).objs.size = s.heap.objs.size + 1 := Heap.size_push ..
  dsimp only at hD hN k4 z4 ⊢
  rw [z1] at hD hN z4 ⊢
  obtain ⟨ol, hol, _⟩ := id hl
  have hlS := ltN hol
  generalize hS : s.heap.objs.size = S at *
  have k5 : ∀ b o, s.heap.get? b = some o → h₄.get? b = some o := fun b o e => k4 _ _ (Heap.get?_push_of_some _ e)
  have hit : h₄.IsListIter S l 0 := ⟨_, k4 _ _ (hS ▸ Heap.get?_push_size _ rfl), rfl, rfl⟩
  have away : ∀ b o, s.heap.get? b = some o → b ∉ [S + 1, S + 1 + 1, S] := fun b o e => by
    have := ltN e
    simp only [List.mem_cons, List.not_mem_nil, or_false, not_or]
    refine ⟨?_, ?_, ?_⟩ <;> (show @Ne Nat b _; omega)
  have away2 : ∀ b : Nat, b < S ∨ S + 3 ≤ b → b ∉ [S + 1, S + 1 + 1, S] := fun b hb => by
    simp only [List.mem_cons, List.not_mem_nil, or_false, not_or]
    refine ⟨?_, ?_, ?_⟩ <;> (show @Ne Nat b _; omega)
  refine oneLoopC (D := S + 1) (I := S) (l := l) (items := items) J hh (lookup_relabel_local hx) (by simp [compEnvC, relabel, hkind]) (by show @Ne Nat (S + 1 + 1) (S + 1); omega) (by show @Ne Nat (S + 1 + 1) S; omega) (by show @Ne Nat (S + 1) S; omega)
    ⟨by show @Ne Nat l (S + 1); omega, by show @Ne Nat l (S + 1 + 1); omega, by show @Ne Nat l S; omega⟩ (hl.at fun o e => k5 _ _ e) hn hJl (fun i ys h h' j k => hJ i ys h h' j fun b o hb e => k b o (away2 b hb) e) ?_ ?_ hit (hJ0 _ k5) hD hN
  · intro i ys h tk m v hv j keep hns hmx hex hexI
    refine wpC_mono (turn i ys h tk m v hv j (fun b o e => keep b o (away b o e) (k5 _ _ e)) hns hmx fun b b1 b2 => ?_) (fun y s₄ q => q) fun _ _ q => q
    have hb : b = S ∨ b = S + 1 ∨ b = S + 1 + 1 := by
      have b1' : @LE.le Nat _ S b := b1
      have b2' : @LT.lt Nat _ b (S + 3) := b2
      show @Eq Nat b S ∨ @Eq Nat b (S + 1) ∨ @Eq Nat b (S + 1 + 1)
      omega
    rcases hb with rfl | rfl | rfl
    · exact hexI
    · exact hex
    · obtain ⟨o, _, _, e, _⟩ := hns
      exact ⟨o, e⟩
  · intro h tk ys m j keep hD' hns
    exact fin h tk ys m j (fun b o e => keep b o (away b o e) (k5 _ _ e)) hD' hns
theorem compListC0 {w : World} {A : Around} {s : Shared} {env : Env} {Q : Value → Shared → Prop} {elt iter : Expr} {x : Str} {px : Pos} {scope : Scope} {cl : List (Str × Addr)} {pos : Pos} {l : Addr} {items : List Value}
    (J : Nat → List Value → Heap → Prop) (hh : A.handled = none) (hclos : closureFor scope env = pure cl) (hcell : ∀ y ∈ scope.names, y.2 ≠ .cell) (hkind : scope.kind = .function) (hnames : ∀ x ∈ scope.names, x.2 = .local → scope.names.lookup x.1 = some .local)
    (hx : scope.names.lookup x = some .local) (hl : s.heap.IsList l items.toArray) (hn : items.length ≤ 1000) (hJl : ∀ i ys h, J i ys h → ys.length ≤ 1000)
    (hJ0 : ∀ h, (∀ b o, s.heap.get? b = some o → h.get? b = some o) → J 0 [] h)
    (hJ : ∀ i ys h h', J i ys h → (∀ b o, b < s.heap.objs.size ∨ s.heap.objs.size + 3 ≤ b → h.get? b = some o → h'.get? b = some o) → J i ys h')
    (turn : ∀ i ys h tk m v, items[i]? = some v → J i ys h → (∀ b o, s.heap.get? b = some o → h.get? b = some o) → h.Ns (s.heap.objs.size + 2) m → m x = some v → (∀ b, s.heap.objs.size ≤ b → b < s.heap.objs.size + 3 → ∃ o, h.get? b = some o) →
      wpC (model PR w) A (eval elt (compEnvC scope cl (s.heap.objs.size + 2) env)) (fun y s₄ => ∃ h' tk', s₄ = { s with heap := h', toks := tk' } ∧ (∀ b o, h.get? b = some o → h'.get? b = some o) ∧ J (i + 1) (ys ++ [y]) h') (fun _ _ => False) { s with heap := h, toks := tk })
    (fin : ∀ h tk ys, J items.length ys h → (∀ b o, s.heap.get? b = some o → h.get? b = some o) → h.get? (s.heap.objs.size + 1) = some (LCg.lst ys) → Q (.ref (s.heap.objs.size + 1)) { s with heap := h, toks := tk })
    (hs : ∀ x, foldedSetIterable iter env x = pure x := by intro _; rfl)
    (hiter : ∀ (Q' : Value → Shared → Prop), Q' (.ref l) s → wpAny (model PR w) A (eval iter env) Q' (fun _ _ => False) s) :
    wpC (model PR w) A (eval (.ListComp elt [⟨.Name x px, iter, [], 0⟩] scope pos) env) Q (fun _ _ => False) s := by
  rw [eval_ListComp]
  refine compListC (use := none) J hh hclos hcell hkind hnames hx hl hn hJl hJ0 hJ turn (fun h tk ys m j keep hD hns => ⟨m, hns, fun h' hs' => ?_⟩) hs hiter
  refine fin h' tk ys (hJ _ _ _ _ j fun b o hb e => hs'.extBut b o (by show @Ne Nat b (s.heap.objs.size + 2); have hb' : @LT.lt Nat _ b s.heap.objs.size ∨ @LE.le Nat _ (s.heap.objs.size + 3) b := hb; omega) e) (fun b o e => hs'.extBut b o (by have := ltN e; show @Ne Nat b (s.heap.objs.size + 2); omega) (keep b o e)) (hs'.extBut _ _ (by show @Ne Nat (s.heap.objs.size + 1) (s.heap.objs.size + 2); omega) hD)
end Mine
end

section
/- part Lf -/
open PySem PySem.W PyProof.Rows PySem.Calls
set_option maxRecDepth 100000
set_option maxHeartbeats 8000000
namespace Mine
section
variable {M : Model} {A : Around} {E : Value → Shared → Prop} {s : Shared} {env : Env} {x : Str} {pos : Pos} {v : Value} {Q : Value → Shared → Prop} {K : Frag} {g : Heap} {p : Program} {loose : List Str} {mean : ExcName → Option Value} {mg mb : Str → Option Value}
theorem nmK (X : K.In g) (T : Top p loose mean mg mb g) (keep : ∀ b o, g.get? b = some o → s.heap.get? b = some o) (e : nsIn K mainGlobals x = some (some v)) (h : Q v s)
    (hg : env.globals = mainGlobals := by rfl) (hk : env.scope.kind = .function := by rfl) (hx : env.kindOf x = some .globalImplicit := by rfl) (hd : (x == ("__debug__" : Str)) = false := by decide) :
    wpAny M A (eval (.Name x pos) env) Q E s := Name_function_global hk hx (loadGlobal_global (hg ▸ (T.g.keeps keep)) (mg_of X T.g e) h) hd
theorem nmB (X : K.In g) (T : Top p loose mean mg mb g) (keep : ∀ b o, g.get? b = some o → s.heap.get? b = some o) (e : nsIn K mainGlobals x = some none) (hv : bootBuiltins x = some v) (hn : x ≠ "__name__") (h : Q v s)
    (hg : env.globals = mainGlobals := by rfl) (hb : env.builtins = builtinsNs := by rfl) (hk : env.scope.kind = .function := by rfl) (hx : env.kindOf x = some .globalImplicit := by rfl) (hd : (x == ("__debug__" : Str)) = false := by decide) :
    wpAny M A (eval (.Name x pos) env) Q E s :=
  Name_function_global hk hx (loadGlobal_builtin (hg ▸ (T.g.keeps keep)) (mg_none_of X T.g e) (hb ▸ (T.b.keeps keep)) (((topRead_of T).builtins x hn).trans hv) h) hd
theorem nmC {c : Addr} (hc : env.cells.lookup x = some c) (hv : s.heap.IsCell c (some v)) (h : Q v s)
    (hk : env.scope.kind = .function := by rfl) (hx : env.kindOf x = some .cell := by rfl) (hd : (x == ("__debug__" : Str)) = false := by decide) :
    wpAny M A (eval (.Name x pos) env) Q E s := wpAny_Name (wpAny_loadName_cell hk hx hc hv h) hd
end
/-- the values are the numerals of the numbers -/
def NumsAre (b : Int) (ys : List Value) (ns : List Int) : Prop := ys.length = ns.length ∧ ∀ (i : Nat) (n : Int), ns[i]? = some n → ∃ t, ys[i]? = some (Value.bytes (numB b n) t)
theorem NumsAre.nil {b : Int} : NumsAre b [] [] := ⟨rfl, fun i n h => by simp at h⟩
theorem NumsAre.snoc {b : Int} {ys : List Value} {ns : List Int} {n : Int} {t : Tok} (x : NumsAre b ys ns) : NumsAre b (ys ++ [Value.bytes (numB b n) t]) (ns ++ [n]) := by
  refine ⟨by simp [x.1], fun i k h => ?_⟩
  by_cases hi : i < ns.length
  · rw [List.getElem?_append_left hi] at h
    obtain ⟨t, e⟩ := x.2 i k h
    exact ⟨t, by rw [List.getElem?_append_left (by rw [x.1]; exact hi)]; exact e⟩
  · rw [List.getElem?_append_right (by omega)] at h
    have h0 : i - ns.length = 0 := by
      rcases Nat.eq_zero_or_pos (i - ns.length) with q | q
      · exact q
      · rw [List.getElem?_eq_none (by simp; omega)] at h; cases h
    rw [h0] at h
    cases h
    have : i = ys.length := by rw [x.1]; omega
    exact ⟨t, by rw [this]; simp⟩
theorem numeralsComp {w : World} {A : Around} {s : Shared} {Q : Value → Shared → Prop} {g : Heap} {cn : Str} {cs : Scope} {L a : Addr} {ccd : Value} {cl cl2 : List (Str × Addr)} {p : Program} {loose : List Str} {mean : ExcName → Option Value} {mg mb : Str → Option Value}
    {vs : List Value} {ns : List Int} {b : Int} {tb : Tok} {l cb cnn : Addr} {p3 p4 p5 p6 p7 p8 p9 : Pos} {scope : Scope}
    (hh : A.handled = none) (X : (hd.heap_1 w.params).In g) (T : Top p loose mean mg mb g) (keep : ∀ b o, g.get? b = some o → s.heap.get? b = some o) (hroom : A.depth + 1 < recursionLimit)
    (hk : cs.kind = .function) (hcell : ∀ y ∈ scope.names, y.2 ≠ .cell) (hkind : scope.kind = .function) (hnames : ∀ x ∈ scope.names, x.2 = .local → scope.names.lookup x.1 = some .local) (hxn : scope.names.lookup ("number" : Str) = some .local)
    (hkg : ∀ C, (compEnvC scope cl2 C (envX cn cs L a ccd cl)).kindOf "generate_generalized_integer" = some .globalImplicit) (hkb : ∀ C, (compEnvC scope cl2 C (envX cn cs L a ccd cl)).kindOf "bias" = some .cell)
    (hclos : closureFor scope (envX cn cs L a ccd cl) = pure cl2) (c2 : cl2.lookup ("bias" : Str) = some cb)
    (k1 : (envX cn cs L a ccd cl).kindOf "numbers" = some .cell) (cnl : cl.lookup ("numbers" : Str) = some cnn)
    (hnum : s.heap.IsCell cnn (some (.ref l))) (hl : s.heap.IsList l vs.toArray) (hi : IntsAre vs ns) (hb : s.heap.IsCell cb (some (.int b tb)))
    (hn0 : ∀ n ∈ ns, 0 ≤ n) (hdl : ∀ n ∈ ns, (digs b (n.toNat + 1) 0 n).length ≤ 64) (hlen : ns.length ≤ 20)
    (h : ∀ h' tk ys, NumsAre b ys ns → (∀ b o, s.heap.get? b = some o → h'.get? b = some o) → h'.get? (s.heap.objs.size + 1) = some (LCg.lst ys) → Q (.ref (s.heap.objs.size + 1)) { s with heap := h', toks := tk }) :
    wpC (model PR w) A (eval (.ListComp (.Call (.Name "generate_generalized_integer" p3) [.Name "number" p4, .Name "bias" p5] [] p6) [⟨.Name "number" p7, .Name "numbers" p8, [], 0⟩] scope p9) (envX cn cs L a ccd cl)) Q (fun _ _ => False) s := by
  obtain ⟨o28, fd28, e28, d28⟩ : ∃ o fd, g.get? 28 = some o ∧ o.data = .func fd := ⟨_, _, X 28 _ rfl, rfl⟩
  have hvl := hi.length
  refine compListC0 (l := l) (items := vs) (fun i ys h => i ≤ ns.length ∧ NumsAre b ys (ns.take i)) hh hclos hcell hkind hnames hxn hl (by omega) (fun i ys h j => by have e := j.2.1; rw [List.length_take] at e; omega) (fun h k => ⟨Nat.zero_le _, by rw [List.take_zero]; exact .nil⟩) (fun i ys h h' j _ => j) ?_ ?_ (fun _ => rfl) (fun Q' q => nmC cnl hnum q hk k1)
  · rintro i ys h₁ tk m v hv ⟨j1, j2⟩ keep₁ hns hmx hex
    have hlt : i < ns.length := by
      have := (List.getElem?_eq_some_iff.mp hv).1
      omega
    obtain ⟨t, ht⟩ := intAt hi i ns[i] (List.getElem?_eq_getElem hlt)
    rw [hv] at ht
    cases ht
    have hmem : ns[i] ∈ ns := List.getElem_mem hlt
    have kg : ∀ b o, g.get? b = some o → h₁.get? b = some o := fun b o e => keep₁ _ _ (keep _ _ e)
    have hk2 : (compEnvC scope cl2 (s.heap.objs.size + 2) (envX cn cs L a ccd cl)).scope.kind = .function := by simp [compEnvC, relabel, hkind]
    have hkn : (compEnvC scope cl2 (s.heap.objs.size + 2) (envX cn cs L a ccd cl)).kindOf "number" = some .local := lookup_relabel_local hxn
    refine callNameC (nmK (s := { s with heap := h₁, toks := tk }) X T kg (by rfl) (cwFun1C d28 (args_cons (nmL (s := { s with heap := h₁, toks := tk }) hns hmx (args_cons (nmC (s := { s with heap := h₁, toks := tk }) c2 (hb.keeps keep₁) (args_nil ⟨kg _ _ e28, wpC_call ?_⟩) hk2 (hkb _))) hk2 hkn))) rfl hk2 (hkg _))
    refine gen_code (X.keeps kg) (T.keeps kg) hroom (hn0 _ hmem) (hdl _ hmem) fun h₂ tk₂ t₂ k₂ => ?_
    refine ⟨h₂, tk₂, rfl, k₂, hlt, ?_⟩
    rw [List.take_add_one, List.getElem?_eq_getElem hlt]
    exact j2.snoc
  · rintro h₁ tk ys ⟨j1, j2⟩ keep₁ hD
    rw [hvl, List.take_length] at j2
    exact h h₁ tk ys j2 keep₁ hD
end Mine
end

section
/- part Lg -/
open PySem PySem.W PyProof.Rows PySem.Calls
set_option maxRecDepth 100000
set_option maxHeartbeats 8000000
namespace Mine
/-- a range from 0 -/
def RangeAt (h : Heap) (a : Addr) (n : Int) : Prop := ∃ t1 t2 t3, h.get? a = some { cls := .type "range", data := .fields #[.int 0 t1, .int n t2, .int 1 t3] }
theorem numeralsC {w : World} {A : Around} {s : Shared} {Q : Flow → Shared → Prop} {g : Heap} {m : Str → Option Value} {cn : Str} {cs : Scope} {L a : Addr} {ccd : Value} {cl cl2 : List (Str × Addr)} {p : Program} {loose : List Str} {mean : ExcName → Option Value} {mg mb : Str → Option Value}
    {vs : List Value} {ns : List Int} {b : Int} {tb : Tok} {l cb cnn : Addr} {p0 p1 p2 p3 p4 p5 p6 p7 p8 p9 q0 q1 q2 q3 q4 q5 q6 : Pos} {scope : Scope}
    (hh : A.handled = none) (F : Fr g L s.heap m) (X : (hd.heap_1 w.params).In g) (T : Top p loose mean mg mb g) (hroom : A.depth + 1 < recursionLimit)
    (hk : cs.kind = .function) (hcell : ∀ y ∈ scope.names, y.2 ≠ .cell) (hkind : scope.kind = .function) (hnames : ∀ x ∈ scope.names, x.2 = .local → scope.names.lookup x.1 = some .local) (hxn : scope.names.lookup ("number" : Str) = some .local)
    (hkg : ∀ C, (compEnvC scope cl2 C (envX cn cs L a ccd cl)).kindOf "generate_generalized_integer" = some .globalImplicit) (hkb : ∀ C, (compEnvC scope cl2 C (envX cn cs L a ccd cl)).kindOf "bias" = some .cell)
    (hclos : closureFor scope (envX cn cs L a ccd cl) = pure cl2) (c2 : cl2.lookup ("bias" : Str) = some cb)
    (k1 : (envX cn cs L a ccd cl).kindOf "numbers" = some .cell) (k3 : (envX cn cs L a ccd cl).kindOf "range" = some .globalImplicit) (k4 : (envX cn cs L a ccd cl).kindOf "len" = some .globalImplicit) (k5 : (envX cn cs L a ccd cl).kindOf "numerals" = some .local) (k6 : (envX cn cs L a ccd cl).kindOf "places" = some .local)
    (cnl : cl.lookup ("numbers" : Str) = some cnn)
    (hnum : s.heap.IsCell cnn (some (.ref l))) (hl : s.heap.IsList l vs.toArray) (hi : IntsAre vs ns) (hb : s.heap.IsCell cb (some (.int b tb)))
    (hn0 : ∀ n ∈ ns, 0 ≤ n) (hdl : ∀ n ∈ ns, (digs b (n.toNat + 1) 0 n).length ≤ 64) (hlen : ns.length ≤ 20)
    (h : ∀ h' tk ys dn rp, NumsAre b ys ns → h'.Ns L (fun y => if y = "numerals" then some (.ref dn) else if y = "places" then some (.ref rp) else m y) → h'.get? dn = some (LCg.lst ys) → RangeAt h' rp ns.length → s.heap.objs.size ≤ dn → s.heap.objs.size ≤ rp →
      (∀ b o, b ≠ L → s.heap.get? b = some o → h'.get? b = some o) → Q .next { s with heap := h', toks := tk })
    (hs : swapsWithSole [.Tuple [.Name "numerals" p0, .Name "places" p1] 0 p2] (.Tuple [.ListComp (.Call (.Name "generate_generalized_integer" p3) [.Name "number" p4, .Name "bias" p5] [] p6) [⟨.Name "number" p7, .Name "numbers" p8, [], 0⟩] scope p9, .Call (.Name "range" q0) [.Call (.Name "len" q1) [.Name "numbers" q2] [] q3] [] q4] 0 q5) q6.line (envX cn cs L a ccd cl) = pure false := by rfl)
    (hw : swappedStores [.Tuple [.Name "numerals" p0, .Name "places" p1] 0 p2] (.Tuple [.ListComp (.Call (.Name "generate_generalized_integer" p3) [.Name "number" p4, .Name "bias" p5] [] p6) [⟨.Name "number" p7, .Name "numbers" p8, [], 0⟩] scope p9, .Call (.Name "range" q0) [.Call (.Name "len" q1) [.Name "numbers" q2] [] q3] [] q4] 0 q5) (envX cn cs L a ccd cl) = pure (some ([("numerals" : Str), ("places" : Str)] : List Str)) := by rfl) :
    wpC (model PR w) A (exec (.Assign [.Tuple [.Name "numerals" p0, .Name "places" p1] 0 p2] (.Tuple [.ListComp (.Call (.Name "generate_generalized_integer" p3) [.Name "number" p4, .Name "bias" p5] [] p6) [⟨.Name "number" p7, .Name "numbers" p8, [], 0⟩] scope p9, .Call (.Name "range" q0) [.Call (.Name "len" q1) [.Name "numbers" q2] [] q3] [] q4] 0 q5) q6) (envX cn cs L a ccd cl)) Q (fun _ _ => False) s := by
  have hvl := hi.length
  refine assignTupleSwC (names := [("numerals" : Str), ("places" : Str)]) (tupleC (splicedC ?_)) hs hw
  refine numeralsComp hh X T F.keep hroom hk hcell hkind hnames hxn hkg hkb hclos c2 k1 cnl hnum hl hi hb hn0 hdl hlen fun h₁ tk₁ ys hy keep₁ hD => ?_
  have kg : ∀ b o, g.get? b = some o → h₁.get? b = some o := fun b o e => keep₁ _ _ (F.keep _ _ e)
  refine spliced_more (Call_ (nmB (s := { s with heap := h₁, toks := tk₁ }) X T kg (by rfl) PyProof.Rows.Boot.range (by decide) ?_ rfl rfl hk k3))
  refine PyProof.Rows.callWith_type1 (args_cons (Call_ (nmB (s := { s with heap := h₁, toks := tk₁ }) X T kg (by rfl) PyProof.Rows.Boot.len (by decide) ?_ rfl rfl hk k4)))
  refine callWith_builtin1 (nmC (s := { s with heap := h₁, toks := tk₁ }) cnl (hnum.keeps keep₁) ?_ hk k1)
  refine len_list (hl.at fun o e => keep₁ _ _ e) (by rw [List.size_toArray]; omega) ?_
  refine args_nil (call_range_1 (spliced_none (wpAny_newTuple ?_)))
  dsimp only
  have z1 : ∀ o : Obj, (h₁.push o).objs.size = h₁.objs.size + 1 := fun o => Heap.size_push ..
  have two : 2 = (#[Value.ref (s.heap.objs.size + 1), Value.ref h₁.objs.size] : Array Value).size := rfl
  show wpAny _ _ (unpackItems (.ref _) 2 none) _ _ _
  rw [two]
  refine unpackItems_tuple hh ⟨_, Heap.get?_push_size _ rfl, rfl, _, rfl⟩ fun h₃ he₃ => ?_
  have k3 : ∀ b o, h₁.get? b = some o → h₃.get? b = some o := fun b o e => he₃ b o (Nat.ne_of_lt (by show b < _; rw [Heap.size_push, z1]; exact Nat.lt_succ_of_lt (Nat.lt_succ_of_lt (ltN e)))) (Heap.get?_push_of_some _ (Heap.get?_push_of_some _ e))
  have hrp : RangeAt h₃ h₁.objs.size ns.length := by
    have := he₃ h₁.objs.size _ (Nat.ne_of_lt (by show h₁.objs.size < _; rw [Heap.size_push, z1]; exact Nat.lt_succ_of_lt (Nat.lt_succ_self _))) (Heap.get?_push_of_some _ (Heap.get?_push_size _ rfl))
    have e9 : vs.toArray.size = ns.length := by simp [hvl]
    rw [e9] at this
    exact ⟨_, _, _, this⟩
  have F₃ : h₃.Ns L m := (F.ns.keeps keep₁).keeps k3
  show wpAny _ _ (assignInOrder [bindName (envX cn cs L a ccd cl) "places", bindName (envX cn cs L a ccd cl) "numerals"] [Value.ref h₁.objs.size, Value.ref (s.heap.objs.size + 1)]) _ _ _
  refine assignInOrder_cons (wpAny_bindName (wpAny_storeName_local k6 F₃ (fun h₄ hn₄ hs₄ => ?_) (by rw [hk]; rfl)))
  refine assignInOrder_cons (wpAny_bindName (wpAny_storeName_local k5 hn₄ (fun h₅ hn₅ hs₅ => ?_) (by rw [hk]; rfl)))
  refine assignInOrder_nil ?_
  have up : ∀ b o, b ≠ L → h₃.get? b = some o → h₅.get? b = some o := fun b o hb e => hs₅.extBut b o hb (hs₄.extBut b o hb e)
  have hLs := nsN F.ns
  have hz1 : s.heap.objs.size + 1 < h₁.objs.size := ltN hD
  refine h h₅ _ ys (s.heap.objs.size + 1) h₁.objs.size hy hn₅ (up _ _ (by show @Ne Nat (s.heap.objs.size + 1) L; omega) (k3 _ _ hD)) ?_ (Nat.le_succ _) (by show s.heap.objs.size ≤ h₁.objs.size; omega) fun b o hb e => up b o hb (k3 _ _ (keep₁ _ _ e))
  obtain ⟨t1, t2, t3, e⟩ := hrp
  exact ⟨t1, t2, t3, up _ _ (by show @Ne Nat h₁.objs.size L; omega) e⟩
end Mine
end

section
/- part Lh -/
open PySem PySem.W PyProof.Rows PySem.Calls
set_option maxRecDepth 100000
set_option maxHeartbeats 8000000
namespace Mine
theorem cwKey {w : World} {A : Around} {E : Value → Shared → Prop} {s : Shared} {env : Env} {pos : Pos} {e : Expr} {rest : List Expr} {Q : Value → Shared → Prop}
    (h : wpAny (model PR w) A (spliced (backTo pos (starEach (e :: rest) env))) (fun vs s₁ => KIs s₁.heap ∧ wpAny (model PR w) A (call (.ref 146) vs) Q E s₁) E s)
    (he : starEach (e :: rest) env = (false, eval e env) :: starEach rest env := by rfl)
    (hplain : (backTo pos (starEach rest env)).any (·.1) = false := by rfl) :
    wpAny (model PR w) A (callWith pos (.ref 146) [] (backTo pos (starEach (e :: rest) env)) []) Q E s := by
  rw [he] at h ⊢
  have hst : ((backTo pos ((false, eval e env) :: starEach rest env)).any (fun x => x.fst) || ([] : List (Option Str × Sem Value)).any fun x => x.fst.isNone) = false := by
    show ((false || (backTo pos (starEach rest env)).any (·.1)) || false) = false
    rw [hplain]; rfl
  unfold callWith
  refine wpAny_bind (wpAny_holding (Calls.evalArgs_plain (wpAny_mono h (fun vs s₁ h₁ => ?_) fun _ _ x => x)))
  obtain ⟨z, Z, _⟩ := h₁.1.frag
  have Y := makes_of (M := model PR w) Z (kc_makes z)
  refine wpAny_bind (wpAny_standAt ?_)
  show wpAny _ _ (keeperOf (.ref 146) >>= _) _ _ _
  unfold keeperOf
  refine wpAny_bind (wpAny_bind (wpAny_load (Z 146 _ rfl) ?_))
  show wpAny _ _ (specialOf (.ref 146) "__call__" >>= _) _ _ _
  refine wpAny_bind (Y.call.here (wpAny_pure ?_))
  rw [if_pos (by rfl), hst]
  show wpAny _ _ (call (.ref 146) vs [] >>= fun r => do holding [r] point; pure r) _ _ _
  exact wpAny_bind (wpAny_mono h₁.2 (fun r s' hr => wpAny_bind (wpAny_holding (wpAny_point (wpAny_pure hr)))) fun _ _ x => x)
/-- the values are instances of K that hold the numerals of the numbers; all of them stand from place S on -/
def KeysAre (b : Int) (S : Nat) (h : Heap) (ys : List Value) (ns : List Int) : Prop := ys.length = ns.length ∧ ∀ (i : Nat) (n : Int), ns[i]? = some n → ∃ a dx t, ys[i]? = some (Value.ref a) ∧ S ≤ a ∧ S ≤ dx ∧ h.get? a = some (kObj dx (.bytes (numB b n) t)) ∧ h.get? dx = some emptyDict
theorem KeysAre.keeps {b : Int} {S : Nat} {h h' : Heap} {ys : List Value} {ns : List Int} (x : KeysAre b S h ys ns) (k : ∀ b o, S ≤ b → h.get? b = some o → h'.get? b = some o) : KeysAre b S h' ys ns :=
  ⟨x.1, fun i n e => let ⟨a, dx, t, e1, e2, e3, e4, e5⟩ := x.2 i n e; ⟨a, dx, t, e1, e2, e3, k _ _ e2 e4, k _ _ e3 e5⟩⟩
theorem KeysAre.snoc {b : Int} {S : Nat} {h : Heap} {ys : List Value} {ns : List Int} {n : Int} {a dx : Nat} {t : Tok} (x : KeysAre b S h ys ns) (e2 : S ≤ a) (e3 : S ≤ dx) (e4 : h.get? a = some (kObj dx (.bytes (numB b n) t))) (e5 : h.get? dx = some emptyDict) : KeysAre b S h (ys ++ [Value.ref a]) (ns ++ [n]) := by
  refine ⟨by simp [x.1], fun i k q => ?_⟩
  by_cases hi : i < ns.length
  · rw [List.getElem?_append_left hi] at q
    obtain ⟨a', dx', t', g1, r⟩ := x.2 i k q
    exact ⟨a', dx', t', by rw [List.getElem?_append_left (by rw [x.1]; exact hi)]; exact g1, r⟩
  · rw [List.getElem?_append_right (by omega)] at q
    have h0 : i - ns.length = 0 := by
      rcases Nat.eq_zero_or_pos (i - ns.length) with q' | q'
      · exact q'
      · rw [List.getElem?_eq_none (by simp; omega)] at q; cases q
    rw [h0] at q
    cases q
    have : i = ys.length := by rw [x.1]; omega
    exact ⟨a, dx, t, by rw [this]; simp, e2, e3, e4, e5⟩
theorem keysC {w : World} {A : Around} {s : Shared} {Q : Flow → Shared → Prop} {m : Str → Option Value} {cn : Str} {cs : Scope} {L a : Addr} {ccd : Value} {cl cl2 : List (Str × Addr)}
    {ys : List Value} {ns : List Int} {b : Int} {dn ck cks : Addr} {p0 p1 p2 p3 p4 p5 p6 p7 : Pos} {scope : Scope}
    (hh : A.handled = none) (hn : s.heap.Ns L m) (hm : m "numerals" = some (.ref dn)) (hlim : s.heap.NoLimit) (K : KIs s.heap) (hroom : A.depth + 1 < recursionLimit)
    (hk : cs.kind = .function) (hcell : ∀ y ∈ scope.names, y.2 ≠ .cell) (hkind : scope.kind = .function) (hnames : ∀ x ∈ scope.names, x.2 = .local → scope.names.lookup x.1 = some .local) (hxn : scope.names.lookup ("numeral" : Str) = some .local)
    (hkk : ∀ C, (compEnvC scope cl2 C (envX cn cs L a ccd cl)).kindOf "key" = some .cell)
    (hclos : closureFor scope (envX cn cs L a ccd cl) = pure cl2) (c2 : cl2.lookup ("key" : Str) = some ck)
    (k1 : (envX cn cs L a ccd cl).kindOf "numerals" = some .local) (k2 : (envX cn cs L a ccd cl).kindOf "keys" = some .cell) (ckl : cl.lookup ("keys" : Str) = some cks)
    (hl : s.heap.get? dn = some (LCg.lst ys)) (hy : NumsAre b ys ns) (hb : s.heap.IsCell ck (some (.ref 146))) (hks : s.heap.IsCell cks none) (hlen : ns.length ≤ 20)
    (h : ∀ h' tk zs D, KeysAre b s.heap.objs.size h' zs ns → s.heap.objs.size ≤ D → h'.get? D = some (LCg.lst zs) → h'.IsCell cks (some (.ref D)) → (∀ b o, b ≠ cks → s.heap.get? b = some o → h'.get? b = some o) → Q .next { s with heap := h', toks := tk })
    (hs : swapsWith (.ListComp (.Call (.Name "key" p1) [.Name "numeral" p2] [] p3) [⟨.Name "numeral" p4, .Name "numerals" p5, [], 0⟩] scope p6) (some (.Name "keys" p0)) p7.line (envX cn cs L a ccd cl) = pure false := by rfl) :
    wpC (model PR w) A (exec (.Assign [.Name "keys" p0] (.ListComp (.Call (.Name "key" p1) [.Name "numeral" p2] [] p3) [⟨.Name "numeral" p4, .Name "numerals" p5, [], 0⟩] scope p6) p7) (envX cn cs L a ccd cl)) Q (fun _ _ => False) s := by
  have hyl := hy.1
  refine assignC (compListC0 (l := dn) (items := ys) (fun i zs h => i ≤ ns.length ∧ KeysAre b (s.heap.objs.size + 3) h zs (ns.take i)) hh hclos hcell hkind hnames hxn ⟨_, hl, rfl, _, rfl⟩ (by omega) (fun i zs h j => by have e := j.2.1; rw [List.length_take] at e; omega)
    (fun h k => ⟨Nat.zero_le _, ⟨by simp, fun i n q => by simp at q⟩⟩) (fun i zs h h' j k => ⟨j.1, j.2.keeps fun b o hb e => k b o (.inr hb) e⟩) ?_ ?_ (fun _ => rfl) (fun Q' q => nmL hn hm q hk k1)) hs
  · rintro i zs h₁ tk mm v hv ⟨j1, j2⟩ keep₁ hns hmx hex
    have hlt : i < ns.length := by
      have := (List.getElem?_eq_some_iff.mp hv).1
      omega
    obtain ⟨t, ht⟩ := hy.2 i ns[i] (List.getElem?_eq_getElem hlt)
    rw [hv] at ht
    cases ht
    have hk2 : (compEnvC scope cl2 (s.heap.objs.size + 2) (envX cn cs L a ccd cl)).scope.kind = .function := by simp [compEnvC, relabel, hkind]
    have hkn : (compEnvC scope cl2 (s.heap.objs.size + 2) (envX cn cs L a ccd cl)).kindOf "numeral" = some .local := lookup_relabel_local hxn
    have hz := nsN hns
    refine wpC_of (Call_ (nmC (s := { s with heap := h₁, toks := tk }) c2 (hb.keeps keep₁) (cwKey (args_cons (nmL (s := { s with heap := h₁, toks := tk }) hns hmx (args_nil ⟨K.keeps keep₁, wpAny_call ?_⟩) hk2 hkn))) hk2 (hkk _)))
    refine key_code (K.keeps keep₁) (hlim.keeps keep₁) hroom fun h₂ tk₂ a₂ dx₂ k₂ n1 n2 n3 n4 => ?_
    refine ⟨h₂, tk₂, rfl, k₂, hlt, ?_⟩
    rw [List.take_add_one, List.getElem?_eq_getElem hlt]
    exact (j2.keeps fun b o _ e => k₂ _ _ e).snoc (Nat.le_trans hz n1) (Nat.le_trans hz n2) n3 n4
  · rintro h₁ tk zs ⟨j1, j2⟩ keep₁ hD
    rw [hyl, List.take_length] at j2
    have hcl : cks < s.heap.objs.size := hks.lt
    refine wpAny_bindName (wpAny_storeName_cell hk k2 ckl (hks.keeps keep₁) fun h₂ hc₂ hs₂ => ?_)
    have far : ∀ b : Nat, s.heap.objs.size ≤ b → b ≠ cks := fun b hb => Nat.ne_of_gt (Nat.lt_of_lt_of_le hcl hb)
    refine h h₂ tk zs (s.heap.objs.size + 1) ⟨j2.1, fun i n q => ?_⟩ (Nat.le_succ _) (hs₂.extBut _ _ (far _ (Nat.le_succ _)) hD) hc₂ fun b o hb e => hs₂.extBut b o hb (keep₁ _ _ e)
    obtain ⟨a, dx, t, e1, e2, e3, e4, e5⟩ := j2.2 i n q
    have e2' : s.heap.objs.size ≤ a := Nat.le_trans (Nat.le_add_right _ 3) e2
    have e3' : s.heap.objs.size ≤ dx := Nat.le_trans (Nat.le_add_right _ 3) e3
    exact ⟨a, dx, t, e1, e2', e3', hs₂.extBut _ _ (far _ e2') e4, hs₂.extBut _ _ (far _ e3') e5⟩
end Mine
end

section
/- part So -/
open PySem PySem.W PyProof.Rows PySem.Calls
set_option maxRecDepth 100000
set_option maxHeartbeats 8000000
namespace Mine
/-- all that a tree asks lies below n, and its end is such -/
def Ask (n : Nat) {α : Type} (P : α → Prop) : KasT α → Prop
  | .ret a => P a
  | .ask i j k => i < n ∧ j < n ∧ ∀ b, Ask n P (k b)
theorem Ask.bind {n : Nat} {α β : Type} {P : α → Prop} {R : β → Prop} {f : α → KasT β} : ∀ (t : KasT α), Ask n P t → (∀ a, P a → Ask n R (f a)) → Ask n R (t.bind f)
  | .ret a, h, hf => hf a h
  | .ask i j k, h, hf => ⟨h.1, h.2.1, fun b => Ask.bind (k b) (h.2.2 b) hf⟩
theorem Ask.mono {n : Nat} {α : Type} {P R : α → Prop} : ∀ (t : KasT α), Ask n P t → (∀ a, P a → R a) → Ask n R t
  | .ret a, h, hf => hf a h
  | .ask i j k, h, hf => ⟨h.1, h.2.1, fun b => Ask.mono (k b) (h.2.2 b) hf⟩
/-- what a tree ends with under given answers -/
def runT (ans : Nat → Nat → Bool) {α : Type} : KasT α → α
  | .ret a => a
  | .ask i j k => runT ans (k (ans i j))
theorem ask_wp {n : Nat} {α : Type} {P : α → Prop} {cmp : Nat → Nat → (Bool → Shared → Prop) → Shared → Prop} {Q : α → Shared → Prop} {ans : Nat → Nat → Bool} {I : Shared → Prop}
    (hc : ∀ i j C s, i < n → j < n → I s → (∀ s', I s' → C (ans i j) s') → cmp i j C s) : ∀ (t : KasT α) (s : Shared), Ask n P t → I s → (∀ s', I s' → Q (runT ans t) s') → t.kasWp cmp Q s
  | .ret a, s, _, hI, h => h s hI
  | .ask i j k, s, ha, hI, h => hc i j _ s ha.1 ha.2.1 hI fun s' hI' => ask_wp hc (k (ans i j)) s' (ha.2.2 _) hI' h
/-- all entries lie below n -/
def Low (n : Nat) (p : Array Nat) : Prop := ∀ x ∈ p, x < n
theorem Low.getD {n : Nat} {p : Array Nat} (h : Low n p) (h0 : 0 < n) (i : Nat) : p.getD i 0 < n := by
  unfold Array.getD
  split
  · exact h _ (Array.getElem_mem _)
  · exact h0
theorem Low.swap {n : Nat} {p : Array Nat} (h : Low n p) (i j : Nat) : Low n (p.swapIfInBounds i j) := by
  intro x hx
  unfold Array.swapIfInBounds at hx
  split at hx
  · split at hx
    · exact h x ((Array.swap_perm _ _).mem_iff.mp hx)
    · exact h x hx
  · exact h x hx
theorem Low.swaps {n : Nat} (u v : Nat → Nat) : ∀ (l : List Nat) (p : Array Nat), Low n p → Low n (l.foldl (fun a k => a.swapIfInBounds (u k) (v k)) p)
  | [], p, h => h
  | k :: l, p, h => Low.swaps u v l _ (h.swap _ _)
theorem Low.rev {n : Nat} {p : Array Nat} (h : Low n p) (i j : Nat) : Low n (kas_rev p i j) := Low.swaps (fun k => i + k) (fun k => j - 1 - k) _ p h
theorem Low.bub {n : Nat} {p : Array Nat} (h : Low n p) (k l : Nat) : Low n (bubble p k l) := Low.swaps (fun i => k - i) (fun i => k - i - 1) _ p h
section
variable {n : Nat} (h0 : 0 < n)
include h0
theorem asc_ask : ∀ (f a : Nat) (p : Array Nat), Low n p → Ask n (fun _ => True) (kas_asc p f a)
  | 0, a, p, h => trivial
  | f + 1, a, p, h => ⟨h.getD h0 _, h.getD h0 _, fun b => by
    cases b
    · exact asc_ask f (a + 1) p h
    · exact trivial⟩
theorem desc_ask : ∀ (f : Nat) (p : Array Nat) (a q : Nat), Low n p → Ask n (fun r => Low n r.1) (kas_desc f p a q)
  | 0, p, a, q, h => h
  | f + 1, p, a, q, h => ⟨h.getD h0 _, h.getD h0 _, fun b => by
    cases b
    · exact ⟨h.getD h0 _, h.getD h0 _, fun c => by
        cases c
        · exact desc_ask f p (a + 1) (q + 1) h
        · exact h⟩
    · show Ask n _ (if q > 0 then _ else _)
      split
      · exact desc_ask f _ _ _ (h.rev _ _)
      · exact desc_ask f _ _ _ h⟩
theorem tail3_ask (a r : Nat) (p : Array Nat) (h : Low n p) : Ask n (fun r => Low n r.2) (kas_tail3 a r p) :=
  Ask.bind _ (asc_ask h0 _ _ _ (h.rev _ _)) fun _ _ => h.rev _ _
theorem descPart_ask (a r : Nat) (p : Array Nat) (h : Low n p) : Ask n (fun r => Low n r.2) (kas_descPart a r p) := by
  refine Ask.bind _ (desc_ask h0 _ _ _ _ h) fun x hx => ?_
  split
  · exact tail3_ask h0 _ _ _ (hx.rev _ _)
  · exact tail3_ask h0 _ _ _ hx
theorem count_ask (r : Nat) (p : Array Nat) (h : Low n p) : Ask n (fun r => Low n r.2) (kas_count r p) := by
  refine Ask.bind _ (asc_ask h0 _ _ _ h) fun x _ => ?_
  split
  · exact h
  · split
    · refine ⟨h.getD h0 _, h.getD h0 _, fun b => ?_⟩
      cases b
      · exact descPart_ask h0 _ _ _ (h.rev _ _)
      · exact h
    · exact descPart_ask h0 _ _ _ h
theorem place_ask (p : Array Nat) (k : Nat) (h : Low n p) : ∀ (f l r : Nat), Ask n (fun _ => True) (kas_place p k f l r)
  | 0, l, r => trivial
  | f + 1, l, r => by
    unfold kas_place
    split
    · exact trivial
    · refine ⟨h.getD h0 _, h.getD h0 _, fun b => ?_⟩
      cases b
      · exact place_ask p k h f _ _
      · exact place_ask p k h f _ _
theorem bin_ask : ∀ (f : Nat) (p : Array Nat) (k : Nat), Low n p → Ask n (Low n) (kas_bin f p k)
  | 0, p, k, h => h
  | f + 1, p, k, h => Ask.bind _ (place_ask h0 p k h _ _ _) fun l _ => bin_ask f _ _ (h.bub _ _)
theorem sort_ask : Ask n (Low n) (kas_sort n) := by
  have h : Low n (List.toArray (List.range n)) := fun x hx => by simpa using hx
  refine Ask.bind _ (count_ask h0 _ _ h) fun r hr => ?_
  split
  · exact bin_ask h0 _ _ _ hr
  · exact hr
end
end Mine
end

section
/- part Sp -/
open PySem PySem.W PyProof.Rows PySem.Calls
set_option maxRecDepth 100000
set_option maxHeartbeats 8000000
namespace Mine
theorem ask_run {n : Nat} {α : Type} {P : α → Prop} (ans : Nat → Nat → Bool) : ∀ (t : KasT α), Ask n P t → P (runT ans t)
  | .ret _, h => h
  | .ask i j k, h => ask_run ans (k (ans i j)) (h.2.2 _)
theorem item_at {ks vs : List Value} (hl : ks.length = vs.length) {i : Nat} (hi : i < vs.length) : kas_item (ks.toArray.zip vs.toArray) i = (ks.getD i .none, vs.getD i .none) := by
  unfold kas_item
  have h1 : i < (ks.toArray.zip vs.toArray).size := by simp; omega
  have h2 : i < ks.length := by omega
  simp [Array.getD, h2, hi, List.getD_eq_getElem?_getD]
  rw [dif_pos (by omega)]
section
variable {prog : Program} {w : World} {A : Around} {E : Value → Shared → Prop} {s : Shared}
theorem sort_tree {a : Addr} {f T : Value} {vs : List Value} {n : Nat} {P : PySem.Fin → Shared → Prop} {ans : Nat → Nat → Bool} (J : Nat → List Value → Heap → Prop)
    (ho : s.heap.get? a = some (seqObj "list" vs.toArray n)) (h2 : 2 ≤ vs.length) (h64 : vs.length < 64)
    (hJ : ∀ i ks h h', J i ks h → (∀ b o, b ≠ a → b ≠ s.heap.objs.size + 1 → h.get? b = some o → h'.get? b = some o) → J i ks h') (hJl : ∀ i ks h, J i ks h → ks.length = i) (J0 : J 0 [] s.heap)
    (turn : ∀ i ks v h tk, vs[i]? = some v → J i ks h → (∀ b o, b ≠ a → s.heap.get? b = some o → h.get? b = some o) → (∃ o, h.get? a = some o) → (∃ o, h.get? (s.heap.objs.size + 1) = some o) →
      wpAny (model prog w) A (call f [v]) (fun k s' => ∃ h' tk', s' = { s with heap := h', toks := tk' } ∧ (∀ b o, h.get? b = some o → h'.get? b = some o) ∧ J (i + 1) (ks ++ [k]) h') (fun _ _ => False) { s with heap := h, toks := tk })
    (kind : ∀ ks h, J vs.length ks h → ∀ v ∈ ks, Looks (model prog w) h (typeOf v) T) (hT1 : (T != Value.type "tuple") = true) (hT2 : (T == T) = true)
    (cmp : ∀ ks i j h tk (C : Bool → Shared → Prop), i < vs.length → j < vs.length → J vs.length ks h → (∀ b o, b ≠ a → s.heap.get? b = some o → h.get? b = some o) →
      (∀ h' tk', (∀ b o, h.get? b = some o → h'.get? b = some o) → J vs.length ks h' → C (ans i j) { s with heap := h', toks := tk' }) → wpAny (model prog w) A (keyLt' oneType' (ks.getD i .none) (ks.getD j .none)) C (fun _ _ => False) { s with heap := h, toks := tk })
    (h : ∀ h' tk c, (∀ b o, b ≠ a → s.heap.get? b = some o → h'.get? b = some o) → h'.get? a = some (seqObj "list" ((runT ans (kas_sort vs.length)).toList.map fun i => vs.getD i .none).toArray c) → P (.done (.ret .none)) { s with heap := h', toks := tk }) :
    wpAny (model prog w) A (ksk_tree a f false) P E s := by
  have ha := ltN ho
  have s1 := Heap.SameBut.update s.heap a (Obj.mapSeq fun _ => (#[] : Array Value))
  obtain ⟨e1, ho1⟩ : ∃ e1, (s.heap.update a (Obj.mapSeq fun _ => (#[] : Array Value))).get? a = some (seqObj "list" #[] e1) := ⟨_, get?_update_seq ho fun _ => #[]⟩
  have hkS : ((s.heap.update a (Obj.mapSeq fun _ => (#[] : Array Value))).push (seqObj "tuple" vs.toArray 0)).objs.size = s.heap.objs.size + 1 := by rw [size_push', Heap.size_update]
  have rest : ∀ (h₁ : Heap) (tk₁ : Nat), (∀ b o, b ≠ a → s.heap.get? b = some o → h₁.get? b = some o) → h₁.get? a = some (seqObj "list" #[] e1) → ∀ kS : Nat, kS = s.heap.objs.size + 1 → h₁.get? kS = some (seqObj "list" #[] 0) →
      wpAny (model prog w) A (ksk_rest a f false vs.toArray e1 (.ref kS)) P E { s with heap := h₁, toks := tk₁ } := by
    rintro h₁ tk₁ keep₁ a₁ kS rfl k₁
    have hka : s.heap.objs.size + 1 ≠ a := Nat.ne_of_gt (Nat.lt_succ_of_lt ha)
    unfold ksk_rest
    refine wpAny_bind (wpAny_rule ?_)
    first
      | rw [List.forIn_toArray]
      | (rw [← Array.forIn_toList]; simp only [List.toList_toArray])
    refine wpAny_bind (ksk_fold (fun i s' => ∃ h' tk ks e, s' = { s with heap := h', toks := tk } ∧ (∀ b o, b ≠ a → s.heap.get? b = some o → h'.get? b = some o) ∧ h'.get? a = some (seqObj "list" #[] e1) ∧ h'.get? (s.heap.objs.size + 1) = some (seqObj "list" (List.toArray ks) e) ∧ J i ks h') vs 0 _
      ⟨h₁, tk₁, [], 0, rfl, keep₁, a₁, k₁, ?j0⟩ ?step ?done)
    case j0 => exact hJ _ _ _ _ J0 fun b o hb _ e => keep₁ b o hb e
    case step =>
      rintro j x s' hx ⟨h', tk, ks, e, rfl, kp, ha', hk', jj⟩
      simp only [Nat.zero_add] at jj ⊢
      have hj : j < vs.length := (List.getElem?_eq_some_iff.mp hx).1
      have hkl := hJl _ _ _ jj
      refine wpAny_bind (wpAny_attempt (wpAny_mono (turn j ks x h' tk hx jj kp ⟨_, ha'⟩ ⟨_, hk'⟩) (fun v s'' he => ?_) fun _ _ hF => hF.elim))
      obtain ⟨g, tk2, rfl, kg, jg⟩ := he
      try dsimp only
      have nk := kg _ _ hk'
      have s2 := Heap.SameBut.update g (s.heap.objs.size + 1) (Obj.mapSeq (·.push v))
      obtain ⟨c2, hc2⟩ : ∃ c2, (g.update (s.heap.objs.size + 1) (Obj.mapSeq (·.push v))).get? (s.heap.objs.size + 1) = some (seqObj "list" (ks.toArray.push v) c2) := ⟨_, get?_update_seq nk (·.push v)⟩
      refine wpAny_bind (listUpdate_at nk rfl ?_ (by rw [sizeLine_eq]; simp; omega) (by rw [sizeLine_eq]; simp; omega))
      refine wpAny_pure ⟨rfl, _, _, ks ++ [v], c2, rfl, fun b o hb q => ?_, (s2.2 a hka.symm).trans (kg _ _ ha'), by rw [hc2]; simp, hJ _ _ _ _ jg fun b o _ hb q => s2.extBut b o hb q⟩
      exact s2.extBut b o (Nat.ne_of_lt (Nat.lt_succ_of_lt (ltN q))) (kg _ _ (kp _ _ hb q))
    case done =>
      rintro s' ⟨h', tk, ks, e, rfl, kp, ha', hk', jj⟩
      rw [Nat.zero_add] at jj
      have hkl := hJl _ _ _ jj
      refine wpAny_bind (listItems_at hk' rfl ?_)
      unfold ksk_end
      simp only [Bool.false_eq_true, if_false]
      rw [if_neg (by rw [List.size_toArray]; omega), if_neg (by rw [List.size_toArray]; omega)]
      refine wpAny_bind (kas_kind (by omega) (kind ks h' jj) hT1 hT2 ?_)
      have hzs : (ks.toArray.zip vs.toArray).size = vs.length := by simp; omega
      have est : SortSt.mk' oneType' (ks.toArray.zip vs.toArray) #[] 7 none = kas_st oneType' (ks.toArray.zip vs.toArray) (List.toArray (List.range vs.length)) := by
        unfold kas_st
        rw [← hzs, kas_range]
      rw [est]
      refine wpAny_bind ?_
      have ask := sort_ask (n := vs.length) (by omega)
      have hlow := ask_run ans _ ask
      refine kas_runs (it := ks.toArray.zip vs.toArray) (κ := oneType') (A := A) (G := fun p' s' => p' = runT ans (kas_sort vs.length) ∧ ∃ h' tk e, s' = { s with heap := h', toks := tk } ∧ (∀ b o, b ≠ a → s.heap.get? b = some o → h'.get? b = some o) ∧ h'.get? a = some (seqObj "list" #[] e1) ∧ h'.get? (s.heap.objs.size + 1) = some (seqObj "list" (List.toArray ks) e) ∧ J vs.length ks h')
        (Q := fun _ st' s' => wpAny (model prog w) A (ksk_tail a false e1 (.ref (s.heap.objs.size + 1)) st') P E s') h2 h64 ?fin ?tree
      case tree =>
        refine ask_wp (I := fun s' => ∃ h' tk e, s' = { s with heap := h', toks := tk } ∧ (∀ b o, b ≠ a → s.heap.get? b = some o → h'.get? b = some o) ∧ h'.get? a = some (seqObj "list" #[] e1) ∧ h'.get? (s.heap.objs.size + 1) = some (seqObj "list" (List.toArray ks) e) ∧ J vs.length ks h') ?_ _ _ ask ⟨h', tk, e, rfl, kp, ha', hk', jj⟩ fun s' hs' => ⟨rfl, hs'⟩
        rintro i j C s' hi hj ⟨g, tkg, eg, rfl, kg, ag, kkg, jg⟩ hC
        unfold kas_cmp
        rw [item_at hkl hi, item_at hkl hj]
        refine cmp ks i j g tkg C hi hj jg kg fun g' tk' kk jg' => hC _ ⟨g', tk', eg, rfl, fun b o hb q => kk _ _ (kg _ _ hb q), kk _ _ ag, kk _ _ kkg, jg'⟩
      case fin =>
        rintro p' st' s' hps hst hf ⟨rfl, g, tkg, eg, rfl, kg, ag, kkg, jg⟩
        have hsorted : (arrOf st').map (·.2) = ((runT ans (kas_sort vs.length)).toList.map fun i => vs.getD i .none).toArray := by
          rw [hst, Array.map_map]
          apply Array.toList_inj.mp
          rw [Array.toList_map, List.toList_toArray]
          apply List.map_congr_left
          intro i hi
          have := hlow i (by simpa using hi)
          show (kas_item _ i).2 = _
          rw [item_at hkl this]
        have hsl : (arrOf st').size = vs.length := by rw [hst, Array.size_map, hps]
        unfold ksk_tail
        try dsimp only
        have t1 := Heap.SameBut.update g (s.heap.objs.size + 1) (Obj.mapSeq fun _ => (#[] : Array Value))
        have na1 : (g.update (s.heap.objs.size + 1) (Obj.mapSeq fun _ => (#[] : Array Value))).get? a = some (seqObj "list" #[] e1) := (t1.2 a hka.symm).trans ag
        refine wpAny_bind (listUpdate_at kkg rfl ?_ (by rw [sizeLine_eq]; simp; omega) (Nat.zero_le _))
        refine wpAny_bind (wpAny_letGo ?_)
        refine wpAny_bind (seqEpoch_at na1 rfl ?_)
        simp only [Bool.false_eq_true, if_false]
        rw [hsorted]
        have t2 := Heap.SameBut.update (g.update (s.heap.objs.size + 1) (Obj.mapSeq fun _ => (#[] : Array Value))) a (Obj.mapSeq fun _ => ((runT ans (kas_sort vs.length)).toList.map fun i => vs.getD i .none).toArray)
        obtain ⟨c2, hc2⟩ : ∃ c2, ((g.update (s.heap.objs.size + 1) (Obj.mapSeq fun _ => (#[] : Array Value))).update a (Obj.mapSeq fun _ => ((runT ans (kas_sort vs.length)).toList.map fun i => vs.getD i .none).toArray)).get? a = some (seqObj "list" ((runT ans (kas_sort vs.length)).toList.map fun i => vs.getD i .none).toArray c2) :=
          ⟨_, get?_update_seq na1 fun _ => ((runT ans (kas_sort vs.length)).toList.map fun i => vs.getD i .none).toArray⟩
        refine wpAny_bind (listUpdate_at na1 rfl ?_ (Nat.zero_le _) (by rw [← hsorted, Array.size_map, hsl, sizeLine_eq]; omega))
        rw [hf]
        simp only [bne_self_eq_false, Bool.false_eq_true, if_false]
        refine wpAny_pure (h _ _ c2 (fun b o hb q => ?_) hc2)
        exact t2.extBut b o hb (t1.extBut b o (Nat.ne_of_lt (Nat.lt_succ_of_lt (ltN q))) (kg _ _ hb q))
  unfold ksk_tree
  refine wpAny_bind (listItems_at ho rfl ?_)
  refine wpAny_bind (listUpdate_at ho rfl ?_ (by rw [List.size_toArray, sizeLine_eq]; omega) (Nat.zero_le _))
  refine wpAny_bind (seqEpoch_at ho1 rfl ?_)
  refine wpAny_bind (wpAny_newTuple ?_ (by show vs.length ≤ _; rw [sizeLine_eq]; omega))
  refine wpAny_bind (wpAny_newList ?_ (Nat.zero_le _))
  refine wpAny_holding ?_
  refine rest _ s.toks ?_ (Heap.get?_push_of_some _ (Heap.get?_push_of_some _ ho1)) _ hkS (Heap.get?_push_size _ rfl)
  intro b o hb e
  exact Heap.get?_push_of_some _ (Heap.get?_push_of_some _ (s1.extBut b o hb e))
end
end Mine
end

section
/- part Sq -/
open PySem PySem.W PyProof.Rows PySem.Calls
set_option maxRecDepth 100000
set_option maxHeartbeats 8000000
namespace Mine
section
variable {prog : Program} {w : World} {A : Around} {E : Value → Shared → Prop} {s : Shared}
/-- the values are 0, 1, .. below n -/
def PlacesAre (vs : List Value) (n : Nat) : Prop := vs.length = n ∧ ∀ i : Nat, i < n → ∃ t, vs[i]? = some (Value.int (i : Int) t)
theorem collectRange {r : Addr} {n : Nat} {Q : List Value → Shared → Prop} (hh : A.handled = none) (hr : RangeAt s.heap r n) (hn : n ≤ 1000)
    (h : ∀ h' tk vs, (∀ b o, s.heap.get? b = some o → h'.get? b = some o) → s.heap.objs.size ≤ h'.objs.size → PlacesAre vs n → Q vs { s with heap := h', toks := tk }) :
    wpAny (model prog w) A (collect (.ref r)) Q E s := by
  obtain ⟨t1, t2, t3, hr⟩ := hr
  unfold collect
  have hsz : Builtin.Range.rangeSize 0 n 1 = n := by
    unfold Builtin.Range.rangeSize
    simp
    omega
  refine wpAny_bind (wpAny_runValue (codeAny_builtin entry_proto_collect' ?_))
  show wpAny _ _ (do again (.builtin "list.__iadd__" ⟨[← newList [], .ref r], []⟩)) _ _ s
  refine wpAny_bind (wpAny_newList (wpAny_pure ⟨Code.quiet_builtin _ (by decide +kernel), codeAny_builtin entry_list_iadd' ?_⟩))
  show wpAny _ _ (Builtin.List.listExtendWith (.ref s.heap.objs.size) (.ref r) (.ref s.heap.objs.size)) _ _ { s with heap := s.heap.push (seqObj "list" #[] 0) }
  rw [Around.under_plainId (by decide +kernel) _]
  refine wpAny_extend_range (R := fun r s' => match r with | .ok (.ret v) => wpAny (model prog w) A (match v with | .ref a => (do let o ← load a; match o.data with | .seq xs _ => pure xs.toList | _ => unsupported "internal:collect") | _ => unsupported "internal:collect") Q E s' | .ok _ => False | .error e => E e s') (s := { s with heap := s.heap.push (seqObj "list" #[] 0) }) (A := A) (a := 0) (b := n) (c := 1) (n := n) hh (Heap.get?_push_of_some _ hr) ?small hsz (by omega) s.heap.objs.size (.ref s.heap.objs.size) 0 (Heap.get?_push_size _ rfl) fun h' tk acc c' keep hS hacc => ?_
  case small =>
    unfold Builtin.Range.small
    rw [hsz]
    simp [Builtin.Range.rangeFitsLong]
    omega
  show wpAny (model prog w) A (do
      let o ← load s.heap.objs.size
      match o.data with
      | .seq xs _ => pure xs.toList
      | _ => unsupported "internal:collect") Q E _
  refine wpAny_bind (wpAny_load hS ?_)
  refine wpAny_pure (h h' tk acc.toList (fun b o e => keep b o (Nat.ne_of_lt (ltN e)) (Heap.get?_push_of_some _ e)) (Nat.le_of_lt (ltN hS)) ?_)
  refine ⟨by simpa using hacc.1, fun i hi => ?_⟩
  have hi' : i < acc.size := by rw [hacc.1]; exact hi
  obtain ⟨t, e⟩ := hacc.2 i acc[i] (Array.getElem?_eq_getElem hi')
  refine ⟨t, ?_⟩
  rw [Array.getElem?_toList, Array.getElem?_eq_getElem hi', e]
  simp
/-- sorted(places, key=f) -/
theorem sorted_x {r : Addr} {q : Addr} {T : Value} {n : Nat} {Q : Value → Shared → Prop} {ans : Nat → Nat → Bool} (J : Nat → Nat → List Value → Heap → Prop) (hh : A.handled = none) (hr : RangeAt s.heap r n) (h2 : 2 ≤ n) (h64 : n < 64)
    (hJ : ∀ S i ks h h', J S i ks h → (∀ b o, (b < S ∨ S + 3 ≤ b) → h.get? b = some o → h'.get? b = some o) → J S i ks h') (hJl : ∀ S i ks h, J S i ks h → ks.length = i)
    (J0 : ∀ S h, s.heap.objs.size ≤ S → (∀ b o, s.heap.get? b = some o → h.get? b = some o) → J S 0 [] h)
    (turn : ∀ S i ks t h tk, i < n → s.heap.objs.size ≤ S → J S i ks h → (∀ b o, s.heap.get? b = some o → h.get? b = some o) →
      wpAny (model prog w) A.in1.in1 (call (.ref q) [.int (i : Int) t]) (fun k s' => ∃ h' tk', s' = { s with heap := h', toks := tk' } ∧ (∀ b o, h.get? b = some o → h'.get? b = some o) ∧ J S (i + 1) (ks ++ [k]) h') (fun _ _ => False) { s with heap := h, toks := tk })
    (kind : ∀ S ks h, J S n ks h → ∀ v ∈ ks, Looks (model prog w) h (typeOf v) T) (hT1 : (T != Value.type "tuple") = true) (hT2 : (T == T) = true)
    (cmp : ∀ S ks i j h tk (C : Bool → Shared → Prop), i < n → j < n → J S n ks h → (∀ b o, s.heap.get? b = some o → h.get? b = some o) →
      (∀ h' tk', (∀ b o, h.get? b = some o → h'.get? b = some o) → J S n ks h' → C (ans i j) { s with heap := h', toks := tk' }) → wpAny (model prog w) A.in1.in1 (keyLt' oneType' (ks.getD i .none) (ks.getD j .none)) C (fun _ _ => False) { s with heap := h, toks := tk })
    (h : ∀ h' tk vs D c, (∀ b o, s.heap.get? b = some o → h'.get? b = some o) → PlacesAre vs n → s.heap.objs.size ≤ D → h'.get? D = some (seqObj "list" ((runT ans (kas_sort n)).toList.map fun i => vs.getD i .none).toArray c) → Q (.ref D) { s with heap := h', toks := tk }) :
    wpAny (model prog w) A (call (.builtin "sorted") [.ref r] [("key", .ref q)]) Q E s := by
  refine call_function_entry_kw kind_sorted plain_sorted entry_sorted (ksk_s1 _ _) ?_
  unfold Builtin.«sorted»
  refine wpAny_bind (m := checkCount "sorted" 1 1 _) (wpAny_pure ?_)
  refine wpAny_bind (collectRange (A := A.in1) hh hr (by omega) fun h₁ tk₁ vs keep₁ hle hv => ?_)
  refine wpAny_bind (wpAny_newList ?_ (by rw [hv.1, sizeLine_eq]; omega))
  have hvl := hv.1
  have z1 : (h₁.push (seqObj "list" vs.toArray 0)).objs.size = h₁.objs.size + 1 := size_push' ..
  refine wpAny_bind (wpAny_holding (wpAny_call_entry_kw slot_list_sort ⟨_, Heap.get?_push_size _ rfl, rfl⟩ entry_list_sort ?body (ksk_l1 _ _)))
  case body =>
    show wpAny (model prog w) A.in1.in1 (Builtin.«list.sort» ⟨[.ref h₁.objs.size], [("key", .ref q)]⟩) _ _ _
    rw [show Builtin.«list.sort» ⟨[.ref h₁.objs.size], [(("key" : Str), .ref q)]⟩ = ksk_tree h₁.objs.size (.ref q) false from ksk_t1 _ _]
    have keep₂ : ∀ b o, s.heap.get? b = some o → (h₁.push (seqObj "list" vs.toArray 0)).get? b = some o := fun b o e => Heap.get?_push_of_some _ (keep₁ _ _ e)
    refine sort_tree (s := { s with heap := h₁.push (seqObj "list" vs.toArray 0), toks := tk₁ }) (a := h₁.objs.size) (n := 0) (T := T) (ans := ans) (J h₁.objs.size) (Heap.get?_push_size _ rfl) (by omega) (by omega) ?_ (hJl _) (J0 _ _ hle keep₂) ?_ (fun ks h => by rw [hvl]; exact kind _ ks h) hT1 hT2 ?_ ?_
    · intro i ks h h' j k
      refine hJ _ i ks h h' j fun b o hb e => k b o ?_ ?_ e
      · show @Ne Nat b h₁.objs.size; have hb' : @LT.lt Nat _ b h₁.objs.size ∨ @LE.le Nat _ (h₁.objs.size + 3) b := hb; omega
      · show @Ne Nat b ((h₁.push (seqObj "list" vs.toArray 0)).objs.size + 1); rw [z1]; have hb' : @LT.lt Nat _ b h₁.objs.size ∨ @LE.le Nat _ (h₁.objs.size + 3) b := hb; omega
    · intro i ks v h tk hx j kp _ _
      have hi : i < n := by rw [← hvl]; exact (List.getElem?_eq_some_iff.mp hx).1
      obtain ⟨t, e⟩ := hv.2 i hi
      rw [hx] at e
      cases e
      exact turn _ i ks t h tk hi hle j fun b o e => kp b o (Nat.ne_of_lt (Nat.lt_of_lt_of_le (ltN e) hle)) (keep₂ _ _ e)
    · intro ks i j h tk C hi hj jj kp hC
      rw [hvl] at hi hj jj hC
      exact cmp _ ks i j h tk C hi hj jj (fun b o e => kp b o (Nat.ne_of_lt (Nat.lt_of_lt_of_le (ltN e) hle)) (keep₂ _ _ e)) hC
    · intro h' tk c kp hD
      rw [hvl] at hD
      refine ⟨_, rfl, wpAny_pure ⟨_, rfl, h h' tk vs h₁.objs.size c (fun b o e => kp b o (Nat.ne_of_lt (Nat.lt_of_lt_of_le (ltN e) hle)) (keep₂ _ _ e)) hv hle hD⟩⟩
end
end Mine
end

section
/- part Lm -/
open PySem PySem.W PyProof.Rows PySem.Calls
set_option maxRecDepth 100000
set_option maxHeartbeats 8000000
namespace Mine
/-- a call of lambda k: name[k], the name a cell of the function around it -/
theorem lam_code {w : World} {A : Around} {s : Shared} {R : Result → Shared → Prop} {qual nm : Str} {params : Arguments} {scope : Scope} {pm ctv : Value} {c' f c D : Addr} {items : List Value} {i : Nat} {t : Tok} {v : Value} {p0 p1 p2 : Pos} {n : Nat}
    (hf : s.heap.get? f = some (kla_obj "<lambda>" qual params (.Subscript (.Name nm p0) (.Name "k" p1) p2) scope [(nm, c)] pm c' ctv)) (hcd : s.heap.CodeRec (.ref c') qual) (hlim : s.heap.NoLimit) (hroom : A.depth < recursionLimit)
    (hbind : bindArgs (kla_fn "<lambda>" qual params (.Subscript (.Name nm p0) (.Name "k" p1) p2) scope [(nm, c)] pm (.ref c') ctv) ⟨[.int (i : Int) t], []⟩ = pure [(("k" : Str), Value.int (i : Int) t)])
    (hk : scope.kind = .function) (hco : scope.isCoroutine = false) (hgen : scope.isGenerator = false) (hcell : ∀ x ∈ scope.names, x.2 ≠ .cell) (hkk : scope.names.lookup ("k" : Str) = some .local) (hkn : scope.names.lookup nm = some .free)
    (hd1 : (nm == ("__debug__" : Str)) = false) (hd2 : (nm == ("__classdict__" : Str)) = false)
    (hc : s.heap.IsCell c (some (.ref D))) (hD : s.heap.get? D = some { cls := .type "list", data := .seq items.toArray n }) (hi : items[i]? = some v) (hl : items.length ≤ 1000)
    (h : ∀ h' tk, (∀ b o, s.heap.get? b = some o → h'.get? b = some o) → R (.ok (.ret v)) { s with heap := h', toks := tk }) :
    codeAny (model PR w) A (.call (.ref f) ⟨[.int (i : Int) t], []⟩) R s := by
  refine kla_callFunE hroom hf rfl hco hgen rfl hcd ?_
  rw [hbind]
  refine wpAny_pure (wpAny_newFunctionEnv hcell (by intro x hx; cases List.mem_singleton.mp hx; exact hkk) (fun h₁ hns hsb => ⟨hlim.fresh _ hsb, kla_codeExpr ?_⟩) hk)
  have hk₁ : ∀ b o, s.heap.get? b = some o → h₁.get? b = some o := fun b o e => hsb.extBut b o (Nat.ne_of_lt (ltN e)) (Heap.get?_push_of_some _ e)
  have hil : i < items.length := (List.getElem?_eq_some_iff.mp hi).1
  refine wpAny_Subscript_Name (T := "list") list_getitem_lookup (wpAny_Name (wpAny_loadName_free hk hkn (c := c) (by show ([(nm, c)] : List (Str × Addr)).lookup nm = some c; simp) (hc.keeps hk₁) ?_ hd2) hd1)
  refine wpAny_Name (wpAny_loadName_local hk hkk hns rfl ?_) (by decide)
  refine ⟨⟨_, hk₁ _ _ hD, rfl⟩, wpAny_getItem_list ⟨_, hk₁ _ _ hD, rfl, _, rfl⟩ (by omega) (by omega) (by simpa using hi) ?_⟩
  exact h _ _ hk₁
/-- making lambda k: name[k] -/
theorem lamA {w : World} {A : Around} {E : Value → Shared → Prop} {s : Shared} {Q : Value → Shared → Prop} {nm : Str} {params : Arguments} {scope : Scope} {env : Env} {c cc P : Addr} {ps : Array Value} {p0 p1 p2 pos : Pos} {mg : Str → Option Value}
    (hcl : closureFor scope env = pure [(nm, c)]) (hge0 : env.globals = mainGlobals) (hg : s.heap.Ns mainGlobals mg) (hcode : env.code = .ref cc) (C : CodeHd s.heap cc P) (hP : s.heap.get? P = some (tabObj ps)) (ht : TriplesOk ps.toList)
    (hnf : codeAmong pos ps.toList = none) (hgP : mainGlobals ≠ P) (hb : s.heap.BuiltinsAt mg P) (hdef : defaultsOf params env = ([], []))
    (h : ∀ c' ctv h' f tk pm, (∀ b o, b ≠ P → s.heap.get? b = some o → h'.get? b = some o) → s.heap.objs.size ≤ c' → s.heap.objs.size ≤ f → h'.CodeRec (.ref c') (env.qual ++ "<lambda>") → h'.get? P = some (tabObj (ps ++ #[rawInt pos.line, rawInt pos.col, .ref c'])) →
      h'.get? f = some (kla_obj "<lambda>" (env.qual ++ "<lambda>") params (.Subscript (.Name nm p0) (.Name "k" p1) p2) scope [(nm, c)] pm c' ctv) → Q (.ref f) { s with heap := h', toks := tk }) :
    wpAny (model PR w) A (eval (.Lambda params (.Subscript (.Name nm p0) (.Name "k" p1) p2) scope pos) env) Q E s := by
  refine kla_eval hdef (kla_makeFunction hcl hge0 hg hcode C hP ht hnf hgP hb fun c' ctv h' tk hx h1 h2 hr hp => ?_)
  exact h c' ctv _ _ tk _ (fun b o hb e => Heap.get?_push_of_some _ (hx b o hb e)) h1 (Nat.le_trans h1 (Nat.le_of_lt h2)) (hr.push _) (Heap.get?_push_of_some _ hp) (Heap.get?_push_size _ rfl)
end Mine
end

section
/- part Ln -/
open PySem PySem.W PyProof.Rows PySem.Calls
set_option maxRecDepth 100000
set_option maxHeartbeats 8000000
namespace Mine
/-- f(x, key=e) of a builtin f -/
theorem callKey {M : Model} {A : Around} {E : Value → Shared → Prop} {s : Shared} {env : Env} {f x : Str} {id : String} {e : Expr} {p0 p1 p2 p3 : Pos} {Q : Value → Shared → Prop}
    (h : wpAny M A (eval (.Name f p0) env) (fun fv s₀ => fv = .builtin id ∧ wpAny M A (eval (.Name x p1) env) (fun v s₁ => wpAny M A (eval e env) (fun k s₂ => wpAny M A (call (.builtin id) [v] [("key", k)]) Q E s₂) E s₁) E s₀) E s)
    (he : eval (.Call (.Name f p0) [.Name x p1] [⟨some "key", e, p3⟩] p2) env = (do callWith p2 (← eval (.Name f p0) env) [] (backTo p2 (starEach [.Name x p1] env)) (backToKw p2 (keywordEach [⟨some "key", e, p3⟩] env))) := by rfl) :
    wpAny M A (eval (.Call (.Name f p0) [.Name x p1] [⟨some "key", e, p3⟩] p2) env) Q E s := by
  rw [he]
  refine wpAny_bind (wpAny_mono h (fun fv s₀ h₀ => ?_) fun _ _ q => q)
  obtain ⟨rfl, h₀⟩ := h₀
  refine callWith_kw (args_cons (wpAny_mono h₀ (fun v s₁ h₁ => args_nil ?_) fun _ _ q => q))
  show wpAny M A (evalAll [do let v ← eval e env; standAt p2; pure v]) (fun kvs s₂ => wpAny M A (call (.builtin id) [v] (([("key" : Str)] : List Str).zip kvs)) Q E s₂) _ _
  refine wpAny_bind (wpAny_bind (wpAny_mono h₁ (fun k s₂ h₂ => ?_) fun _ _ q => q))
  exact wpAny_bind (wpAny_standAt (wpAny_pure (wpAny_bind (wpAny_holding (wpAny_pure (wpAny_pure h₂))))))
end Mine
end

section
/- part Lo -/
open PySem PySem.W PyProof.Rows PySem.Calls
set_option maxRecDepth 100000
set_option maxHeartbeats 8000000
namespace Mine
/-- the first of the best among 0 .. j -/
def bestOf (better : Nat → Nat → Bool) : Nat → Nat
  | 0 => 0
  | j + 1 => if better (j + 1) (bestOf better j) = true then j + 1 else bestOf better j
theorem bestOf_le (better : Nat → Nat → Bool) : ∀ j, bestOf better j ≤ j
  | 0 => Nat.le_refl _
  | j + 1 => by
    have := bestOf_le better j
    unfold bestOf
    split <;> omega
section
variable {prog : Program} {w : World} {A : Around} {E : Value → Shared → Prop} {s : Shared}
/-- the place that stands at the end of min's walk -/
theorem minLoop {I S q : Addr} {n : Nat} {kvs : List Value} {better : Nat → Nat → Bool} {R : Result → Shared → Prop} (hh : A.handled = none) (hI : s.heap.objs.size ≤ I) (hS : s.heap.objs.size ≤ S) (hSI : S ≠ I)
    (turn : ∀ i t h tk, i < n → (∀ b o, s.heap.get? b = some o → h.get? b = some o) →
      wpAny (model prog w) A.in1 (call (.ref q) [.int (i : Int) t]) (fun k s' => k = kvs.getD i .none ∧ ∃ h' tk', s' = { s with heap := h', toks := tk' } ∧ ∀ b o, h.get? b = some o → h'.get? b = some o) (fun _ _ => False) { s with heap := h, toks := tk })
    (cmp : ∀ i j h tk (C : Value → Shared → Prop), i < n → j < n → (∀ b o, s.heap.get? b = some o → h.get? b = some o) →
      (∀ h' tk', (∀ b o, h.get? b = some o → h'.get? b = some o) → C (.bool (better i j)) { s with heap := h', toks := tk' }) → wpAny (model prog w) A.in1 (richCompare .Lt (kvs.getD i .none) (kvs.getD j .none)) C (fun _ _ => False) { s with heap := h, toks := tk })
    (hR : ∀ t h' tk', (∀ b o, s.heap.get? b = some o → h'.get? b = some o) → R (.ok (.ret (.int (bestOf better (n - 1) : Nat) t))) { s with heap := h', toks := tk' }) :
    ∀ (r j : Nat) (h : Heap) (tk : Nat) (tb : Tok) (c : Nat), n - (j + 1) = r → j + 1 ≤ n → (∀ b o, s.heap.get? b = some o → h.get? b = some o) → h.get? S = some (seqObj "list" #[.int (bestOf better j : Nat) tb, kvs.getD (bestOf better j) .none] c) →
      IsRangeIter h I (0 + ((j + 1 : Nat) : Int) * 1) ((n : Int) - ((j + 1 : Nat) : Int)) 1 →
      codeAny (model prog w) A (.builtin "min.loop" ⟨[.ref I, .ref q, .ref S], []⟩) R { s with heap := h, toks := tk } := by
  have hname : (toString "min" ++ toString ".loop" : String) = "min.loop" := by decide
  have W := Walks.range (prog := prog) (w := w) (A := A.in1) hh I 0 1 n
  have far : ∀ b o, s.heap.get? b = some o → b ≠ I ∧ b ≠ S := fun b o e => ⟨Nat.ne_of_lt (Nat.lt_of_lt_of_le (ltN e) hI), Nat.ne_of_lt (Nat.lt_of_lt_of_le (ltN e) hS)⟩
  intro r
  induction r with
  | zero =>
    intro j h tk tb c hr hj keep gS gI
    have hin : j + 1 = n := by omega
    refine codeAny_builtin PySem.F.entry_min_loop ?_
    rw [Around.under_plainId PySem.F.plain_min_loop _]
    show wpAny _ A.in1 (seqItems? (.ref S) >>= _) _ _ _
    refine wpAny_bind (wpAny_seqItems gS rfl ?_)
    show wpAny _ A.in1 (tryCatch (pyNext (.ref I)) _ >>= _) _ _ _
    refine wpAny_bind (wpAny_tryCatch (W.done _ _ _ (hin ▸ gI) fun h' tk' hk' => ?_))
    have hS' := hk' S _ (by simpa using hSI) gS
    have s1 := Heap.SameBut.update h' S (Obj.mapSeq fun _ => (#[] : Array Value))
    show wpAny _ A.in1 (updateSeq S (fun _ => #[]) >>= _) _ _ _
    refine wpAny_bind ?_
    refine wpAny_updateSeq hS' rfl (wpAny_bind (wpAny_letGo (wpAny_pure ?_)))
    have := hR tb (h'.update S (Obj.mapSeq fun _ => (#[] : Array Value))) tk' fun b o e => s1.extBut b o (far b o e).2 (hk' b o (by simpa using (far b o e).1) (keep _ _ e))
    rw [← hin, Nat.add_sub_cancel] at this
    exact this
  | succ r ih =>
    intro j h tk tb c hr hj keep gS gI
    have hlt : j + 1 < n := by omega
    refine codeAny_builtin PySem.F.entry_min_loop ?_
    rw [Around.under_plainId PySem.F.plain_min_loop _]
    show wpAny _ A.in1 (seqItems? (.ref S) >>= _) _ _ _
    refine wpAny_bind (wpAny_seqItems gS rfl ?_)
    show wpAny _ A.in1 (tryCatch (pyNext (.ref I)) _ >>= _) _ _ _
    refine wpAny_bind (wpAny_tryCatch (W.item (j + 1) _ _ _ hlt gI fun v h' tk' hP hst' hk' => ?_))
    obtain ⟨t, rfl⟩ := hP
    have ev : (0 + ((j + 1 : Nat) : Int) * 1) = ((j + 1 : Nat) : Int) := by omega
    rw [ev]
    have keep' : ∀ b o, s.heap.get? b = some o → h'.get? b = some o := fun b o e => hk' b o (by simpa using (far b o e).1) (keep _ _ e)
    have gS' := hk' S _ (by simpa using hSI) gS
    show wpAny _ A.in1 (tryCatch (holding [.int ((j + 1 : Nat) : Int) t] (call (.ref q) [.int ((j + 1 : Nat) : Int) t])) _ >>= _) _ _ _
    refine wpAny_bind (wpAny_tryCatch (wpAny_holding (wpAny_mono (turn (j + 1) t h' tk' hlt keep') (fun x s'' he => ?_) fun _ _ hF => hF.elim)))
    obtain ⟨rfl, h2, tk2, rfl, k2⟩ := he
    have keep2 : ∀ b o, s.heap.get? b = some o → h2.get? b = some o := fun b o e => k2 _ _ (keep' _ _ e)
    show wpAny _ A.in1 (tryCatch (holding [.int ((j + 1 : Nat) : Int) t, kvs.getD (j + 1) .none] (richCompare .Lt (kvs.getD (j + 1) .none) (kvs.getD (bestOf better j) .none) >>= _)) _ >>= _) _ _ _
    refine wpAny_bind (wpAny_tryCatch (wpAny_holding (wpAny_bind (wpAny_mono (cmp (j + 1) (bestOf better j) h2 tk2 _ hlt (Nat.lt_of_le_of_lt (bestOf_le better j) (by omega)) keep2 fun h3 tk3 k3 => ?_) (fun _ _ q => q) fun _ _ q => q.elim))))
    have keep3 : ∀ b o, s.heap.get? b = some o → h3.get? b = some o := fun b o e => k3 _ _ (keep2 _ _ e)
    have gS3 := k3 _ _ (k2 _ _ gS')
    have gI3 := k3 _ _ (k2 _ _ hst')
    refine wpAny_bind (wpAny_holding (wpAny_truthy_bool ?_))
    refine wpAny_bind (wpAny_letGo (wpAny_pure ?_))
    cases hb : better (j + 1) (bestOf better j) with
    | true =>
      have hbest : bestOf better (j + 1) = j + 1 := by show (if better (j + 1) (bestOf better j) = true then _ else _) = _; rw [hb]; rfl
      have s1 := Heap.SameBut.update h3 S (Obj.mapSeq fun _ => #[.int ((j + 1 : Nat) : Int) t, kvs.getD (j + 1) .none])
      obtain ⟨c2, hc2⟩ : ∃ c2, (h3.update S (Obj.mapSeq fun _ => #[.int ((j + 1 : Nat) : Int) t, kvs.getD (j + 1) .none])).get? S = some (seqObj "list" #[.int ((j + 1 : Nat) : Int) t, kvs.getD (j + 1) .none] c2) := ⟨_, get?_update_seq gS3 fun _ => #[.int ((j + 1 : Nat) : Int) t, kvs.getD (j + 1) .none]⟩
      simp only [if_true]
      refine wpAny_bind ?_
      refine wpAny_updateSeq gS3 rfl (wpAny_bind (wpAny_letGo ?_))
      rw [hname]
      refine wpAny_pure ⟨plainId_quiet PySem.F.plain_min_loop _, ih (j + 1) _ _ t c2 (by omega) hlt (fun b o e => s1.extBut b o (far b o e).2 (keep3 _ _ e)) (by rw [hbest]; exact hc2) ((s1.2 I hSI.symm).trans gI3)⟩
    | false =>
      have hbest : bestOf better (j + 1) = bestOf better j := by show (if better (j + 1) (bestOf better j) = true then _ else _) = _; rw [hb]; rfl
      simp only [Bool.false_eq_true, if_false]
      refine wpAny_bind (wpAny_letGo ?_)
      rw [hname]
      refine wpAny_pure ⟨plainId_quiet PySem.F.plain_min_loop _, ih (j + 1) _ _ tb c (by omega) hlt keep3 (by rw [hbest]; exact gS3) gI3⟩
/-- the place that stands at the end of max's walk -/
theorem maxLoop {I S q : Addr} {n : Nat} {kvs : List Value} {better : Nat → Nat → Bool} {R : Result → Shared → Prop} (hh : A.handled = none) (hI : s.heap.objs.size ≤ I) (hS : s.heap.objs.size ≤ S) (hSI : S ≠ I)
    (turn : ∀ i t h tk, i < n → (∀ b o, s.heap.get? b = some o → h.get? b = some o) →
      wpAny (model prog w) A.in1 (call (.ref q) [.int (i : Int) t]) (fun k s' => k = kvs.getD i .none ∧ ∃ h' tk', s' = { s with heap := h', toks := tk' } ∧ ∀ b o, h.get? b = some o → h'.get? b = some o) (fun _ _ => False) { s with heap := h, toks := tk })
    (cmp : ∀ i j h tk (C : Value → Shared → Prop), i < n → j < n → (∀ b o, s.heap.get? b = some o → h.get? b = some o) →
      (∀ h' tk', (∀ b o, h.get? b = some o → h'.get? b = some o) → C (.bool (better i j)) { s with heap := h', toks := tk' }) → wpAny (model prog w) A.in1 (richCompare .Gt (kvs.getD i .none) (kvs.getD j .none)) C (fun _ _ => False) { s with heap := h, toks := tk })
    (hR : ∀ t h' tk', (∀ b o, s.heap.get? b = some o → h'.get? b = some o) → R (.ok (.ret (.int (bestOf better (n - 1) : Nat) t))) { s with heap := h', toks := tk' }) :
    ∀ (r j : Nat) (h : Heap) (tk : Nat) (tb : Tok) (c : Nat), n - (j + 1) = r → j + 1 ≤ n → (∀ b o, s.heap.get? b = some o → h.get? b = some o) → h.get? S = some (seqObj "list" #[.int (bestOf better j : Nat) tb, kvs.getD (bestOf better j) .none] c) →
      IsRangeIter h I (0 + ((j + 1 : Nat) : Int) * 1) ((n : Int) - ((j + 1 : Nat) : Int)) 1 →
      codeAny (model prog w) A (.builtin "max.loop" ⟨[.ref I, .ref q, .ref S], []⟩) R { s with heap := h, toks := tk } := by
  have hname : (toString "max" ++ toString ".loop" : String) = "max.loop" := by decide
  have W := Walks.range (prog := prog) (w := w) (A := A.in1) hh I 0 1 n
  have far : ∀ b o, s.heap.get? b = some o → b ≠ I ∧ b ≠ S := fun b o e => ⟨Nat.ne_of_lt (Nat.lt_of_lt_of_le (ltN e) hI), Nat.ne_of_lt (Nat.lt_of_lt_of_le (ltN e) hS)⟩
  intro r
  induction r with
  | zero =>
    intro j h tk tb c hr hj keep gS gI
    have hin : j + 1 = n := by omega
    refine codeAny_builtin PySem.F.entry_max_loop ?_
    rw [Around.under_plainId PySem.F.plain_max_loop _]
    show wpAny _ A.in1 (seqItems? (.ref S) >>= _) _ _ _
    refine wpAny_bind (wpAny_seqItems gS rfl ?_)
    show wpAny _ A.in1 (tryCatch (pyNext (.ref I)) _ >>= _) _ _ _
    refine wpAny_bind (wpAny_tryCatch (W.done _ _ _ (hin ▸ gI) fun h' tk' hk' => ?_))
    have hS' := hk' S _ (by simpa using hSI) gS
    have s1 := Heap.SameBut.update h' S (Obj.mapSeq fun _ => (#[] : Array Value))
    show wpAny _ A.in1 (updateSeq S (fun _ => #[]) >>= _) _ _ _
    refine wpAny_bind ?_
    refine wpAny_updateSeq hS' rfl (wpAny_bind (wpAny_letGo (wpAny_pure ?_)))
    have := hR tb (h'.update S (Obj.mapSeq fun _ => (#[] : Array Value))) tk' fun b o e => s1.extBut b o (far b o e).2 (hk' b o (by simpa using (far b o e).1) (keep _ _ e))
    rw [← hin, Nat.add_sub_cancel] at this
    exact this
  | succ r ih =>
    intro j h tk tb c hr hj keep gS gI
    have hlt : j + 1 < n := by omega
    refine codeAny_builtin PySem.F.entry_max_loop ?_
    rw [Around.under_plainId PySem.F.plain_max_loop _]
    show wpAny _ A.in1 (seqItems? (.ref S) >>= _) _ _ _
    refine wpAny_bind (wpAny_seqItems gS rfl ?_)
    show wpAny _ A.in1 (tryCatch (pyNext (.ref I)) _ >>= _) _ _ _
    refine wpAny_bind (wpAny_tryCatch (W.item (j + 1) _ _ _ hlt gI fun v h' tk' hP hst' hk' => ?_))
    obtain ⟨t, rfl⟩ := hP
    have ev : (0 + ((j + 1 : Nat) : Int) * 1) = ((j + 1 : Nat) : Int) := by omega
    rw [ev]
    have keep' : ∀ b o, s.heap.get? b = some o → h'.get? b = some o := fun b o e => hk' b o (by simpa using (far b o e).1) (keep _ _ e)
    have gS' := hk' S _ (by simpa using hSI) gS
    show wpAny _ A.in1 (tryCatch (holding [.int ((j + 1 : Nat) : Int) t] (call (.ref q) [.int ((j + 1 : Nat) : Int) t])) _ >>= _) _ _ _
    refine wpAny_bind (wpAny_tryCatch (wpAny_holding (wpAny_mono (turn (j + 1) t h' tk' hlt keep') (fun x s'' he => ?_) fun _ _ hF => hF.elim)))
    obtain ⟨rfl, h2, tk2, rfl, k2⟩ := he
    have keep2 : ∀ b o, s.heap.get? b = some o → h2.get? b = some o := fun b o e => k2 _ _ (keep' _ _ e)
    show wpAny _ A.in1 (tryCatch (holding [.int ((j + 1 : Nat) : Int) t, kvs.getD (j + 1) .none] (richCompare .Gt (kvs.getD (j + 1) .none) (kvs.getD (bestOf better j) .none) >>= _)) _ >>= _) _ _ _
    refine wpAny_bind (wpAny_tryCatch (wpAny_holding (wpAny_bind (wpAny_mono (cmp (j + 1) (bestOf better j) h2 tk2 _ hlt (Nat.lt_of_le_of_lt (bestOf_le better j) (by omega)) keep2 fun h3 tk3 k3 => ?_) (fun _ _ q => q) fun _ _ q => q.elim))))
    have keep3 : ∀ b o, s.heap.get? b = some o → h3.get? b = some o := fun b o e => k3 _ _ (keep2 _ _ e)
    have gS3 := k3 _ _ (k2 _ _ gS')
    have gI3 := k3 _ _ (k2 _ _ hst')
    refine wpAny_bind (wpAny_holding (wpAny_truthy_bool ?_))
    refine wpAny_bind (wpAny_letGo (wpAny_pure ?_))
    cases hb : better (j + 1) (bestOf better j) with
    | true =>
      have hbest : bestOf better (j + 1) = j + 1 := by show (if better (j + 1) (bestOf better j) = true then _ else _) = _; rw [hb]; rfl
      have s1 := Heap.SameBut.update h3 S (Obj.mapSeq fun _ => #[.int ((j + 1 : Nat) : Int) t, kvs.getD (j + 1) .none])
      obtain ⟨c2, hc2⟩ : ∃ c2, (h3.update S (Obj.mapSeq fun _ => #[.int ((j + 1 : Nat) : Int) t, kvs.getD (j + 1) .none])).get? S = some (seqObj "list" #[.int ((j + 1 : Nat) : Int) t, kvs.getD (j + 1) .none] c2) := ⟨_, get?_update_seq gS3 fun _ => #[.int ((j + 1 : Nat) : Int) t, kvs.getD (j + 1) .none]⟩
      simp only [if_true]
      refine wpAny_bind ?_
      refine wpAny_updateSeq gS3 rfl (wpAny_bind (wpAny_letGo ?_))
      rw [hname]
      refine wpAny_pure ⟨plainId_quiet PySem.F.plain_max_loop _, ih (j + 1) _ _ t c2 (by omega) hlt (fun b o e => s1.extBut b o (far b o e).2 (keep3 _ _ e)) (by rw [hbest]; exact hc2) ((s1.2 I hSI.symm).trans gI3)⟩
    | false =>
      have hbest : bestOf better (j + 1) = bestOf better j := by show (if better (j + 1) (bestOf better j) = true then _ else _) = _; rw [hb]; rfl
      simp only [Bool.false_eq_true, if_false]
      refine wpAny_bind (wpAny_letGo ?_)
      rw [hname]
      refine wpAny_pure ⟨plainId_quiet PySem.F.plain_max_loop _, ih (j + 1) _ _ tb c (by omega) hlt keep3 (by rw [hbest]; exact gS3) gI3⟩
end
end Mine
end

section
/- part Lp -/
open PySem PySem.W PyProof.Rows PySem.Calls
set_option maxRecDepth 100000
set_option maxHeartbeats 8000000
namespace Mine
section
variable {prog : Program} {w : World} {A : Around} {E : Value → Shared → Prop} {s : Shared}
theorem minKey {r q : Addr} {n : Nat} {kvs : List Value} {better : Nat → Nat → Bool} {Q : Value → Shared → Prop} (hh : A.handled = none) (hr : RangeAt s.heap r n) (hn : 0 < n) (hn2 : n ≤ 1000)
    (turn : ∀ i t h tk, i < n → (∀ b o, s.heap.get? b = some o → h.get? b = some o) →
      wpAny (model prog w) A.in1 (call (.ref q) [.int (i : Int) t]) (fun k s' => k = kvs.getD i .none ∧ ∃ h' tk', s' = { s with heap := h', toks := tk' } ∧ ∀ b o, h.get? b = some o → h'.get? b = some o) (fun _ _ => False) { s with heap := h, toks := tk })
    (cmp : ∀ i j h tk (C : Value → Shared → Prop), i < n → j < n → (∀ b o, s.heap.get? b = some o → h.get? b = some o) →
      (∀ h' tk', (∀ b o, h.get? b = some o → h'.get? b = some o) → C (.bool (better i j)) { s with heap := h', toks := tk' }) → wpAny (model prog w) A.in1 (richCompare .Lt (kvs.getD i .none) (kvs.getD j .none)) C (fun _ _ => False) { s with heap := h, toks := tk })
    (hQ : ∀ t h' tk', (∀ b o, s.heap.get? b = some o → h'.get? b = some o) → Q (.int (bestOf better (n - 1) : Nat) t) { s with heap := h', toks := tk' }) :
    wpAny (model prog w) A (call (.builtin "min") [.ref r] [("key", .ref q)]) Q E s := by
  have hname : (toString "min" ++ toString ".loop" : String) = "min.loop" := by decide
  obtain ⟨t1, t2, t3, hr⟩ := hr
  have hsz : Builtin.Range.rangeSize 0 n 1 = n := by
    unfold Builtin.Range.rangeSize
    simp
    omega
  have small : Builtin.Range.small 0 n 1 = true := by
    unfold Builtin.Range.small
    rw [hsz]
    simp [Builtin.Range.rangeFitsLong]
    omega
  refine kmk_tree PySem.F.kind_min PySem.F.plain_min PySem.F.entry_min (kmk_min_key _ _) ?_
  show wpAny _ A.in1 (Builtin.Builtins.bindParams "min" ["key", "default"] 0 ⟨[], [(Str.ofString "key", .ref q)]⟩ >>= _) _ _ s
  refine wpAny_bind (wpAny_of_eq (show Builtin.Builtins.bindParams "min" ["key", "default"] 0 ⟨[], [(Str.ofString "key", .ref q)]⟩ = pure [some (.ref q), none] from rfl) ?_)
  refine wpAny_bind (wpAny_pure ?_)
  refine wpAny_bind (wpAny_pyIter_range hr small ?_)
  refine wpAny_bind (wpAny_newList ?_ (Nat.zero_le _))
  rw [hname]
  dsimp only
  generalize hH : s.heap.push { cls := .type "range_iterator", data := .fields #[rawInt 0, rawInt (Builtin.Range.rangeSize 0 n 1), rawInt 1] } = H
  have zH : H.objs.size = s.heap.objs.size + 1 := by rw [← hH]; exact size_push' ..
  have kH : ∀ b o, s.heap.get? b = some o → (H.push { cls := .type "list", data := .seq ([] : List Value).toArray }).get? b = some o := fun b o e => Heap.get?_push_of_some _ (hH ▸ Heap.get?_push_of_some _ e)
  have gI : IsRangeIter (H.push { cls := .type "list", data := .seq ([] : List Value).toArray }) s.heap.objs.size (0 + ((0 : Nat) : Int) * 1) ((n : Int) - ((0 : Nat) : Int)) 1 := by
    refine Heap.get?_push_of_some _ ?_
    rw [← hH]
    show _ = _
    rw [hsz]
    simpa using Heap.get?_push_size _ rfl
  have gS : (H.push { cls := .type "list", data := .seq ([] : List Value).toArray }).get? H.objs.size = some (seqObj "list" #[] 0) := Heap.get?_push_size _ rfl
  have hSI : H.objs.size ≠ s.heap.objs.size := by rw [zH]; exact Nat.succ_ne_self _
  have far : ∀ b o, s.heap.get? b = some o → b ≠ s.heap.objs.size ∧ b ≠ H.objs.size := fun b o e => ⟨Nat.ne_of_lt (ltN e), by rw [zH]; exact Nat.ne_of_lt (Nat.lt_succ_of_lt (ltN e))⟩
  have W := Walks.range (prog := prog) (w := w) (A := A.in1) hh s.heap.objs.size 0 1 n
  refine wpAny_pure ⟨plainId_quiet PySem.F.plain_min_loop _, ?_⟩
  refine codeAny_builtin PySem.F.entry_min_loop ?_
  rw [Around.under_plainId PySem.F.plain_min_loop _]
  show wpAny _ A.in1 (seqItems? (.ref _) >>= _) _ _ _
  refine wpAny_bind (wpAny_seqItems gS rfl ?_)
  show wpAny _ A.in1 (tryCatch (pyNext (.ref s.heap.objs.size)) _ >>= _) _ _ _
  refine wpAny_bind (wpAny_tryCatch (W.item 0 _ _ _ hn gI fun v h' tk' hP hst' hk' => ?_))
  obtain ⟨t, rfl⟩ := hP
  have ev : (0 + ((0 : Nat) : Int) * 1) = ((0 : Nat) : Int) := by omega
  rw [ev]
  have keep' : ∀ b o, s.heap.get? b = some o → h'.get? b = some o := fun b o e => hk' b o (by simpa using (far b o e).1) (kH _ _ e)
  have gS' := hk' H.objs.size _ (by simpa using hSI) gS
  show wpAny _ A.in1 (tryCatch (holding [.int ((0 : Nat) : Int) t] (call (.ref q) [.int ((0 : Nat) : Int) t])) _ >>= _) _ _ _
  refine wpAny_bind (wpAny_tryCatch (wpAny_holding (wpAny_mono (turn 0 t h' tk' hn keep') (fun x s'' he => ?_) fun _ _ hF => hF.elim)))
  obtain ⟨rfl, h2, tk2, rfl, k2⟩ := he
  have gS2 := k2 _ _ gS'
  have gI2 := k2 _ _ hst'
  have s1 := Heap.SameBut.update h2 H.objs.size (Obj.mapSeq fun _ => #[.int ((0 : Nat) : Int) t, kvs.getD 0 .none])
  obtain ⟨c2, hc2⟩ : ∃ c2, (h2.update H.objs.size (Obj.mapSeq fun _ => #[.int ((0 : Nat) : Int) t, kvs.getD 0 .none])).get? H.objs.size = some (seqObj "list" #[.int ((0 : Nat) : Int) t, kvs.getD 0 .none] c2) := ⟨_, get?_update_seq gS2 fun _ => #[.int ((0 : Nat) : Int) t, kvs.getD 0 .none]⟩
  show wpAny _ A.in1 (updateSeq H.objs.size (fun _ => #[.int ((0 : Nat) : Int) t, kvs.getD 0 .none]) >>= _) _ _ _
  refine wpAny_bind ?_
  refine wpAny_updateSeq gS2 rfl ?_
  rw [hname]
  refine wpAny_pure ⟨plainId_quiet PySem.F.plain_min_loop _, minLoop hh (Nat.le_refl _) (by rw [zH]; exact Nat.le_succ _) hSI turn cmp hQ _ 0 _ _ t c2 rfl hn (fun b o e => s1.extBut b o (far b o e).2 (k2 _ _ (keep' _ _ e))) hc2 ((s1.2 _ hSI.symm).trans gI2)⟩
theorem maxKey {r q : Addr} {n : Nat} {kvs : List Value} {better : Nat → Nat → Bool} {Q : Value → Shared → Prop} (hh : A.handled = none) (hr : RangeAt s.heap r n) (hn : 0 < n) (hn2 : n ≤ 1000)
    (turn : ∀ i t h tk, i < n → (∀ b o, s.heap.get? b = some o → h.get? b = some o) →
      wpAny (model prog w) A.in1 (call (.ref q) [.int (i : Int) t]) (fun k s' => k = kvs.getD i .none ∧ ∃ h' tk', s' = { s with heap := h', toks := tk' } ∧ ∀ b o, h.get? b = some o → h'.get? b = some o) (fun _ _ => False) { s with heap := h, toks := tk })
    (cmp : ∀ i j h tk (C : Value → Shared → Prop), i < n → j < n → (∀ b o, s.heap.get? b = some o → h.get? b = some o) →
      (∀ h' tk', (∀ b o, h.get? b = some o → h'.get? b = some o) → C (.bool (better i j)) { s with heap := h', toks := tk' }) → wpAny (model prog w) A.in1 (richCompare .Gt (kvs.getD i .none) (kvs.getD j .none)) C (fun _ _ => False) { s with heap := h, toks := tk })
    (hQ : ∀ t h' tk', (∀ b o, s.heap.get? b = some o → h'.get? b = some o) → Q (.int (bestOf better (n - 1) : Nat) t) { s with heap := h', toks := tk' }) :
    wpAny (model prog w) A (call (.builtin "max") [.ref r] [("key", .ref q)]) Q E s := by
  have hname : (toString "max" ++ toString ".loop" : String) = "max.loop" := by decide
  obtain ⟨t1, t2, t3, hr⟩ := hr
  have hsz : Builtin.Range.rangeSize 0 n 1 = n := by
    unfold Builtin.Range.rangeSize
    simp
    omega
  have small : Builtin.Range.small 0 n 1 = true := by
    unfold Builtin.Range.small
    rw [hsz]
    simp [Builtin.Range.rangeFitsLong]
    omega
  refine kmk_tree PySem.F.kind_max PySem.F.plain_max PySem.F.entry_max (kmk_max_key _ _) ?_
  show wpAny _ A.in1 (Builtin.Builtins.bindParams "max" ["key", "default"] 0 ⟨[], [(Str.ofString "key", .ref q)]⟩ >>= _) _ _ s
  refine wpAny_bind (wpAny_of_eq (show Builtin.Builtins.bindParams "max" ["key", "default"] 0 ⟨[], [(Str.ofString "key", .ref q)]⟩ = pure [some (.ref q), none] from rfl) ?_)
  refine wpAny_bind (wpAny_pure ?_)
  refine wpAny_bind (wpAny_pyIter_range hr small ?_)
  refine wpAny_bind (wpAny_newList ?_ (Nat.zero_le _))
  rw [hname]
  dsimp only
  generalize hH : s.heap.push { cls := .type "range_iterator", data := .fields #[rawInt 0, rawInt (Builtin.Range.rangeSize 0 n 1), rawInt 1] } = H
  have zH : H.objs.size = s.heap.objs.size + 1 := by rw [← hH]; exact size_push' ..
  have kH : ∀ b o, s.heap.get? b = some o → (H.push { cls := .type "list", data := .seq ([] : List Value).toArray }).get? b = some o := fun b o e => Heap.get?_push_of_some _ (hH ▸ Heap.get?_push_of_some _ e)
  have gI : IsRangeIter (H.push { cls := .type "list", data := .seq ([] : List Value).toArray }) s.heap.objs.size (0 + ((0 : Nat) : Int) * 1) ((n : Int) - ((0 : Nat) : Int)) 1 := by
    refine Heap.get?_push_of_some _ ?_
    rw [← hH]
    show _ = _
    rw [hsz]
    simpa using Heap.get?_push_size _ rfl
  have gS : (H.push { cls := .type "list", data := .seq ([] : List Value).toArray }).get? H.objs.size = some (seqObj "list" #[] 0) := Heap.get?_push_size _ rfl
  have hSI : H.objs.size ≠ s.heap.objs.size := by rw [zH]; exact Nat.succ_ne_self _
  have far : ∀ b o, s.heap.get? b = some o → b ≠ s.heap.objs.size ∧ b ≠ H.objs.size := fun b o e => ⟨Nat.ne_of_lt (ltN e), by rw [zH]; exact Nat.ne_of_lt (Nat.lt_succ_of_lt (ltN e))⟩
  have W := Walks.range (prog := prog) (w := w) (A := A.in1) hh s.heap.objs.size 0 1 n
  refine wpAny_pure ⟨plainId_quiet PySem.F.plain_max_loop _, ?_⟩
  refine codeAny_builtin PySem.F.entry_max_loop ?_
  rw [Around.under_plainId PySem.F.plain_max_loop _]
  show wpAny _ A.in1 (seqItems? (.ref _) >>= _) _ _ _
  refine wpAny_bind (wpAny_seqItems gS rfl ?_)
  show wpAny _ A.in1 (tryCatch (pyNext (.ref s.heap.objs.size)) _ >>= _) _ _ _
  refine wpAny_bind (wpAny_tryCatch (W.item 0 _ _ _ hn gI fun v h' tk' hP hst' hk' => ?_))
  obtain ⟨t, rfl⟩ := hP
  have ev : (0 + ((0 : Nat) : Int) * 1) = ((0 : Nat) : Int) := by omega
  rw [ev]
  have keep' : ∀ b o, s.heap.get? b = some o → h'.get? b = some o := fun b o e => hk' b o (by simpa using (far b o e).1) (kH _ _ e)
  have gS' := hk' H.objs.size _ (by simpa using hSI) gS
  show wpAny _ A.in1 (tryCatch (holding [.int ((0 : Nat) : Int) t] (call (.ref q) [.int ((0 : Nat) : Int) t])) _ >>= _) _ _ _
  refine wpAny_bind (wpAny_tryCatch (wpAny_holding (wpAny_mono (turn 0 t h' tk' hn keep') (fun x s'' he => ?_) fun _ _ hF => hF.elim)))
  obtain ⟨rfl, h2, tk2, rfl, k2⟩ := he
  have gS2 := k2 _ _ gS'
  have gI2 := k2 _ _ hst'
  have s1 := Heap.SameBut.update h2 H.objs.size (Obj.mapSeq fun _ => #[.int ((0 : Nat) : Int) t, kvs.getD 0 .none])
  obtain ⟨c2, hc2⟩ : ∃ c2, (h2.update H.objs.size (Obj.mapSeq fun _ => #[.int ((0 : Nat) : Int) t, kvs.getD 0 .none])).get? H.objs.size = some (seqObj "list" #[.int ((0 : Nat) : Int) t, kvs.getD 0 .none] c2) := ⟨_, get?_update_seq gS2 fun _ => #[.int ((0 : Nat) : Int) t, kvs.getD 0 .none]⟩
  show wpAny _ A.in1 (updateSeq H.objs.size (fun _ => #[.int ((0 : Nat) : Int) t, kvs.getD 0 .none]) >>= _) _ _ _
  refine wpAny_bind ?_
  refine wpAny_updateSeq gS2 rfl ?_
  rw [hname]
  refine wpAny_pure ⟨plainId_quiet PySem.F.plain_max_loop _, maxLoop hh (Nat.le_refl _) (by rw [zH]; exact Nat.le_succ _) hSI turn cmp hQ _ 0 _ _ t c2 rfl hn (fun b o e => s1.extBut b o (far b o e).2 (k2 _ _ (keep' _ _ e))) hc2 ((s1.2 _ hSI.symm).trans gI2)⟩
end
end Mine
end

section
/- part Lq -/
open PySem PySem.W PyProof.Rows PySem.Calls
set_option maxRecDepth 100000
set_option maxHeartbeats 8000000
namespace Mine
theorem kc_lt (z : KP) : findIn (KC z) (.ref 146) "__lt__" = some (some (.ref 110)) := by with_unfolding_all rfl
theorem kc_fn_lt (z : KP) : isFn (KC z) (.ref 110) = true := by with_unfolding_all rfl
section
variable {w : World} {d u : Nat} {fr : Option (List Env)} {gu : Option (List Code)} {s : Shared} {E : Value → Shared → Prop} {p : Program} {loose : List Str} {mean : ExcName → Option Value} {mg mb : Str → Option Value} {ax ay : Addr} {bx bY : Array UInt8}
theorem k_rich {op : CmpOp} {Q : Value → Shared → Prop}
   (X : (hd.heap_1 w.params).In s.heap) (T : Top p loose mean mg mb s.heap) (K : KIs s.heap) (hroom : d + 3 < recursionLimit) (hu : u + 200 < cLine) (hop : op = .Lt ∨ op = .Gt)
   (kx : KAt s.heap ax bx) (ky : KAt s.heap ay bY) (hx : bx.size < 1000) (hy : bY.size < 1000)
   (h : ∀ h' tk, (∀ b o, s.heap.get? b = some o → h'.get? b = some o) → Q (.bool (opB op (cmpv bx bY))) { s with heap := h', toks := tk }) :
   wpAny (model PR w) ⟨none, d, fr, gu, u⟩ (richCompare op (.ref ax) (.ref ay)) Q E s := by
  have hop' : op = .Lt ∨ op = .Gt ∨ op = .Eq ∨ op = .LtE ∨ op = .GtE := hop.elim .inl fun q => .inr (.inl q)
  have := k_compare (Q := Q) (E := E) (fr := fr) (gu := gu) X T K hroom hu hop' kx ky hx hy h
  rcases hop with rfl | rfl <;> exact this
theorem k_keyLt {Q : Bool → Shared → Prop}
   (X : (hd.heap_1 w.params).In s.heap) (T : Top p loose mean mg mb s.heap) (K : KIs s.heap) (hroom : d + 3 < recursionLimit) (hu : u + 200 < cLine)
   (kx : KAt s.heap ax bx) (ky : KAt s.heap ay bY) (hx : bx.size < 1000) (hy : bY.size < 1000)
   (h : ∀ h' tk, (∀ b o, s.heap.get? b = some o → h'.get? b = some o) → Q (opB .Lt (cmpv bx bY)) { s with heap := h', toks := tk }) :
   wpAny (model PR w) ⟨none, d, fr, gu, u⟩ (keyLt' oneType' (.ref ax) (.ref ay)) Q E s := by
  obtain ⟨z, Z, _, m1, _⟩ := K.frag
  obtain ⟨dx, tx, ex, edx⟩ := id kx
  rw [keyLt'_oneType, oneLt'_eq]
  simp only [if_true]
  refine wpAny_bind (wpAny_cRoomFor (by show u < cLine; omega) ?_)
  refine wpAny_bind (ifBound_K (od := some emptyDict) Z ⟨ex, rfl, rfl, edx⟩ (kc_lt z) (kc_fn_lt z) (wpAny_call (meth_code X T Z (Z 110 _ rfl) m1 K.cl hroom hu (by simp) kx ky hx hy fun h' tk k => ?_)))
  exact wpAny_truthy_bool (h h' tk k)
end
end Mine
end

section
/- part Lr -/
open PySem PySem.W PyProof.Rows PySem.Calls
set_option maxRecDepth 100000
set_option maxHeartbeats 8000000
namespace Mine
/-- the places 0 .. n-1 in the order that the answers bring about -/
def orderOf (ans : Nat → Nat → Bool) (n : Nat) : List Nat := (runT ans (kas_sort n)).toList
/-- a list of the places, in the order that the answers bring about -/
def OrderAt (h : Heap) (D : Addr) (ans : Nat → Nat → Bool) (n : Nat) : Prop := ∃ vs c, h.get? D = some { cls := .type "list", data := .seq (List.toArray vs) c } ∧ IntsAre vs ((orderOf ans n).map fun (i : Nat) => (i : Int))
theorem ints_map {vs : List Value} {n : Nat} (hv : PlacesAre vs n) : ∀ (l : List Nat), (∀ i ∈ l, i < n) → IntsAre (l.map fun i => vs.getD i .none) (l.map fun (i : Nat) => (i : Int))
  | [], _ => .nil
  | i :: l, h => by
    obtain ⟨t, e⟩ := hv.2 i (h i (.head _))
    have e2 : vs.getD i .none = .int (i : Int) t := by rw [List.getD_eq_getElem?_getD, e]; rfl
    show IntsAre (vs.getD i .none :: _) _
    rw [e2]
    exact .cons _ _ (ints_map hv l fun j hj => h j (.tail _ hj))
theorem order_low (ans : Nat → Nat → Bool) {n : Nat} (h0 : 0 < n) : ∀ i ∈ orderOf ans n, i < n := fun i hi => ask_run ans _ (sort_ask h0) i (by simpa [orderOf] using hi)
/-- sorted(places, key=lambda k: name[k]), the function made already -/
theorem sortedLam {w : World} {A : Around} {E : Value → Shared → Prop} {s : Shared} {Q : Value → Shared → Prop} {r f : Addr} {T : Value} {n : Nat} {items : List Value} {ans : Nat → Nat → Bool} (hh : A.handled = none) (hr : RangeAt s.heap r n) (h2 : 2 ≤ n) (h64 : n < 64) (hil : items.length = n)
    (call : ∀ i t h tk, i < n → (∀ b o, s.heap.get? b = some o → h.get? b = some o) → ∀ R : Result → Shared → Prop, (∀ h' tk', (∀ b o, h.get? b = some o → h'.get? b = some o) → R (.ok (.ret (items.getD i .none))) { s with heap := h', toks := tk' }) →
      codeAny (model PR w) A.in1.in1 (.call (.ref f) ⟨[.int (i : Int) t], []⟩) R { s with heap := h, toks := tk })
    (kind : ∀ v ∈ items, ∀ h, (∀ b o, s.heap.get? b = some o → h.get? b = some o) → Looks (model PR w) h (typeOf v) T) (hT1 : (T != Value.type "tuple") = true) (hT2 : (T == T) = true)
    (cmp : ∀ i j h tk (C : Bool → Shared → Prop), i < n → j < n → (∀ b o, s.heap.get? b = some o → h.get? b = some o) →
      (∀ h' tk', (∀ b o, h.get? b = some o → h'.get? b = some o) → C (ans i j) { s with heap := h', toks := tk' }) → wpAny (model PR w) A.in1.in1 (keyLt' oneType' (items.getD i .none) (items.getD j .none)) C (fun _ _ => False) { s with heap := h, toks := tk })
    (h : ∀ h' tk D, (∀ b o, s.heap.get? b = some o → h'.get? b = some o) → s.heap.objs.size ≤ D → OrderAt h' D ans n → Q (.ref D) { s with heap := h', toks := tk }) :
    wpAny (model PR w) A (PySem.call (.builtin "sorted") [.ref r] [("key", .ref f)]) Q E s := by
  have below : ∀ {S b : Nat} {o : Obj}, s.heap.objs.size ≤ S → s.heap.get? b = some o → b < S := fun hS e => Nat.lt_of_lt_of_le (ltN e) hS
  refine sorted_x (T := T) (ans := ans) (fun S i ks h => s.heap.objs.size ≤ S ∧ i ≤ n ∧ ks = items.take i ∧ ∀ b o, s.heap.get? b = some o → h.get? b = some o) hh hr h2 h64 ?_ ?_ ?_ ?_ ?_ hT1 hT2 ?_ ?_
  · rintro S i ks h h' ⟨a, b, c, k⟩ k'
    exact ⟨a, b, c, fun x o e => k' x o (.inl (below a e)) (k _ _ e)⟩
  · rintro S i ks h ⟨a, b, rfl, k⟩
    rw [List.length_take]; omega
  · exact fun S h hS k => ⟨hS, Nat.zero_le _, by simp, k⟩
  · rintro S i ks t h tk hi hS ⟨a, b, rfl, k⟩ _
    refine wpAny_call (call i t h tk hi k _ fun h' tk' k' => ⟨h', tk', rfl, k', a, hi, ?_, fun b o e => k' _ _ (k _ _ e)⟩)
    have hi' : i < items.length := by omega
    rw [List.take_add_one, List.getElem?_eq_getElem hi', List.getD_eq_getElem?_getD, List.getElem?_eq_getElem hi']
    rfl
  · rintro S ks h ⟨a, b, rfl, k⟩ v hv
    exact kind v (List.mem_of_mem_take hv) h k
  · rintro S ks i j h tk C hi hj ⟨a, b, c, k⟩ _ hC
    have e : ks = items := by rw [c]; exact List.take_of_length_le (by omega)
    rw [e]
    exact cmp i j h tk C hi hj k fun h' tk' k' => hC h' tk' k' ⟨a, b, c, fun b o e => k' _ _ (k _ _ e)⟩
  · intro h' tk vs D c k hv hD hg
    exact h h' tk D k hD ⟨_, _, hg, ints_map hv _ (order_low ans (by omega))⟩
end Mine
end

section
/- part Ls -/
open PySem PySem.W PyProof.Rows PySem.Calls
set_option maxRecDepth 100000
set_option maxHeartbeats 8000000
namespace Mine
/-- what is used of the law's own environment -/
structure LawEnv (env : Env) : Prop where
  hk : env.scope.kind = .function
  hl : env.locals = 68
  hg : env.globals = mainGlobals
  hb : env.builtins = builtinsNs
  hc : env.code = .ref 65
  kNumerals : env.kindOf "numerals" = some .local
  kPlaces : env.kindOf "places" = some .local
  kEnds : env.kindOf "ends" = some .local
  kTold : env.kindOf "told" = some .local
  kDue : env.kindOf "due" = some .local
  kKeys : env.kindOf "keys" = some .cell
  kNumbers : env.kindOf "numbers" = some .cell
  kBias : env.kindOf "bias" = some .cell
  cKeys : env.cells.lookup ("keys" : Str) = some 71
  cNumbers : env.cells.lookup ("numbers" : Str) = some 72
  cBias : env.cells.lookup ("bias" : Str) = some 69
  kSorted : env.kindOf "sorted" = some .globalImplicit
  kMin : env.kindOf "min" = some .globalImplicit
  kMax : env.kindOf "max" = some .globalImplicit
  kZip : env.kindOf "zip" = some .globalImplicit
  kRead : env.kindOf "_law_read" = some .globalImplicit
/-- a list -/
def LAt (h : Heap) (a : Addr) (vs : List Value) : Prop := ∃ n, h.get? a = some { cls := .type "list", data := .seq (List.toArray vs) n }
theorem LAt.at {h h' : Heap} {a : Addr} {vs : List Value} (x : LAt h a vs) (k : ∀ o, h.get? a = some o → h'.get? a = some o) : LAt h' a vs := let ⟨n, e⟩ := x; ⟨n, k _ e⟩
theorem LAt.is {h : Heap} {a : Addr} {vs : List Value} (x : LAt h a vs) : h.IsList a vs.toArray := let ⟨n, e⟩ := x; ⟨_, e, rfl, n, rfl⟩
theorem LAt.ofLst {h : Heap} {a : Addr} {vs : List Value} (x : h.get? a = some (LCg.lst vs)) : LAt h a vs := ⟨_, x⟩
/-- where the law's data lie -/
structure LP where
  (l D dn rp : Nat)
  (vs zs ys : List Value)
  tb : Tok
/-- the law's data -/
structure LS (b : Int) (ns : List Int) (q : LP) (h : Heap) : Prop where
  K : KIs h
  cb : h.IsCell 69 (some (.int b q.tb))
  cks : h.IsCell 71 (some (.ref q.D))
  cn : h.IsCell 72 (some (.ref q.l))
  hl : LAt h q.l q.vs
  iv : IntsAre q.vs ns
  hD : LAt h q.D q.zs
  kk : KeysAre b 86 h q.zs ns
  hn : LAt h q.dn q.ys
  ny : NumsAre b q.ys ns
  hr : RangeAt h q.rp ns.length
  al : 69 ≤ q.l
  aD : 69 ≤ q.D
  an : 69 ≤ q.dn
  ar : 69 ≤ q.rp
theorem LS.keeps {b : Int} {ns : List Int} {q : LP} {h h' : Heap} (x : LS b ns q h) (k : ∀ b o, 69 ≤ b → h.get? b = some o → h'.get? b = some o) : LS b ns q h' where
  K := x.K.hi fun b o hb e => k b o (Nat.le_trans (by decide) hb) e
  cb := let ⟨o, e, d⟩ := x.cb; ⟨o, k _ _ (by decide) e, d⟩
  cks := let ⟨o, e, d⟩ := x.cks; ⟨o, k _ _ (by decide) e, d⟩
  cn := let ⟨o, e, d⟩ := x.cn; ⟨o, k _ _ (by decide) e, d⟩
  hl := x.hl.at fun o e => k _ _ x.al e
  iv := x.iv
  hD := x.hD.at fun o e => k _ _ x.aD e
  kk := x.kk.keeps fun b o hb e => k b o (Nat.le_trans (by decide) hb) e
  hn := x.hn.at fun o e => k _ _ x.an e
  ny := x.ny
  hr := let ⟨t1, t2, t3, e⟩ := x.hr; ⟨t1, t2, t3, k _ _ x.ar e⟩
  al := x.al
  aD := x.aD
  an := x.an
  ar := x.ar
/-- what holds behind the law's first five statements -/
structure LI (g : Heap) (b : Int) (ns : List Int) (q : LP) (o37 : Obj) (ps : Array Value) (m : Str → Option Value) (h : Heap) : Prop where
  F : Fr g 68 h m
  S : LS b ns q h
  mn : m "numerals" = some (.ref q.dn)
  mp : m "places" = some (.ref q.rp)
  e37 : h.get? 37 = some o37
  e63 : h.get? 63 = some (tabObj ps)
theorem LI.keeps {g : Heap} {b : Int} {ns : List Int} {q : LP} {o37 : Obj} {ps : Array Value} {m : Str → Option Value} {h h' : Heap} (x : LI g b ns q o37 ps m h) (k : ∀ b o, h.get? b = some o → h'.get? b = some o) : LI g b ns q o37 ps m h' :=
  ⟨x.F.keeps k, x.S.keeps fun b o _ e => k b o e, x.mn, x.mp, k _ _ x.e37, k _ _ x.e63⟩
section
variable {w : World} {A : Around} {E : Value → Shared → Prop} {s : Shared} {env : Env} {g : Heap} {b : Int} {ns : List Int} {q : LP} {o37 : Obj} {ps : Array Value} {m : Str → Option Value} {p : Program} {loose : List Str} {mean : ExcName → Option Value} {mg mb : Str → Option Value}
/-- making one of the law's lambdas -/
theorem lamK {Q : Value → Shared → Prop} {nm : Str} {params : Arguments} {scope : Scope} {c : Addr} {p0 p1 p2 pos : Pos}
    (V : LawEnv env) (X : (hd.heap_1 w.params).In g) (T : Top p loose mean mg mb g) (g63 : g.get? 63 = none) (I : LI g b ns q o37 ps m s.heap)
    (hcl : closureFor scope env = pure [(nm, c)]) (hdef : defaultsOf params env = ([], [])) (ht : TriplesOk ps.toList) (hnf : codeAmong pos ps.toList = none)
    (h : ∀ h' tk f c' pm ctv, LI g b ns q o37 (ps ++ #[rawInt pos.line, rawInt pos.col, .ref c']) m h' → (∀ b o, b ≠ 63 → s.heap.get? b = some o → h'.get? b = some o) → s.heap.objs.size ≤ f →
      h'.CodeRec (.ref c') (env.qual ++ "<lambda>") → h'.get? f = some (kla_obj "<lambda>" (env.qual ++ "<lambda>") params (.Subscript (.Name nm p0) (.Name "k" p1) p2) scope [(nm, c)] pm c' ctv) → Q (.ref f) { s with heap := h', toks := tk }) :
    wpAny (model PR w) A (eval (.Lambda params (.Subscript (.Name nm p0) (.Name "k" p1) p2) scope pos) env) Q E s := by
  have hgs := T.g.keeps I.F.keep
  obtain ⟨bm, ob, b1, b2, b3, b4, b5, b6⟩ := T.bmain
  have hgP : mainGlobals ≠ 63 := fun q => by
    obtain ⟨o, es, ep, e, hd, _⟩ := hgs
    rw [q, I.e63] at e; cases e; cases hd
  have hbP : bm ≠ 63 := fun q => by
    rw [q, g63] at b3; cases b3
  have hbG : bm ≠ mainGlobals := fun q => by
    obtain ⟨o, es, ep, e, hd, _⟩ := T.g
    rw [q, e] at b3; cases b3; rw [hd] at b6; cases b6
  refine lamA (cc := 65) (P := 63) (mg := mg) hcl V.hg hgs V.hc ((codeHd_of_K X (by rfl)).keeps I.F.keep) I.e63 ht hnf hgP ⟨bm, ob, b1, b2, hbG, hbP, I.F.keep _ _ b3, b4, b5, b6⟩ hdef fun c' ctv h' f tk pm hx h1 h2 hrec htb hf => ?_
  refine h h' tk f c' pm ctv ⟨⟨I.F.ns.extBut hx (by decide), fun b o e => hx b o (fun q => by rw [q, g63] at e; cases e) (I.F.keep b o e), I.F.above⟩, I.S.keeps fun b o hb e => hx b o (Nat.ne_of_gt (Nat.lt_of_lt_of_le (by decide) hb)) e, I.mn, I.mp, hx _ _ (by decide) I.e37, htb⟩ hx h2 hrec hf
end
end Mine
end

section
/- part Lt -/
open PySem PySem.W PyProof.Rows PySem.Calls
set_option maxRecDepth 100000
set_option maxHeartbeats 8000000
namespace Mine
/-- what is used of a lambda k: name[k] -/
structure LamOk (nm : Str) (params : Arguments) (scope : Scope) : Prop where
  bind : ∀ qual body cl pm cd ctv v, bindArgs (kla_fn "<lambda>" qual params body scope cl pm cd ctv) ⟨[v], []⟩ = pure [(("k" : Str), v)]
  hk : scope.kind = .function
  hco : scope.isCoroutine = false
  hgen : scope.isGenerator = false
  hcell : ∀ x ∈ scope.names, x.2 ≠ .cell
  hkk : scope.names.lookup ("k" : Str) = some .local
  hkn : scope.names.lookup nm = some .free
  hd1 : (nm == ("__debug__" : Str)) = false
  hd2 : (nm == ("__classdict__" : Str)) = false
theorem typeLooks {M : Model} {h : Heap} {a : Addr} {o : Obj} (e : h.get? a = some o) : Looks M h (typeOf (.ref a)) o.cls := fun A Q E s k q => by
  unfold typeOf
  exact wpAny_bind (wpAny_load (k _ _ e) (wpAny_pure q))
section
variable {w : World} {d u : Nat} {fr : Option (List Env)} {gu : Option (List Code)} {E : Value → Shared → Prop} {s : Shared} {env : Env} {g : Heap} {b : Int} {ns : List Int} {q : LP} {o37 : Obj} {ps : Array Value} {m : Str → Option Value} {p : Program} {loose : List Str} {mean : ExcName → Option Value} {mg mb : Str → Option Value}
theorem lamCall {A : Around} {R : Result → Shared → Prop} {qual nm : Str} {params : Arguments} {scope : Scope} {pm ctv : Value} {c' f c D : Addr} {items : List Value} {i : Nat} {t : Tok} {p0 p1 p2 : Pos} (LO : LamOk nm params scope)
    (hf : s.heap.get? f = some (kla_obj "<lambda>" qual params (.Subscript (.Name nm p0) (.Name "k" p1) p2) scope [(nm, c)] pm c' ctv)) (hcd : s.heap.CodeRec (.ref c') qual) (hlim : s.heap.NoLimit) (hroom : A.depth < recursionLimit)
    (hc : s.heap.IsCell c (some (.ref D))) (hD : LAt s.heap D items) (hi : i < items.length) (hl : items.length ≤ 1000)
    (h : ∀ h' tk, (∀ b o, s.heap.get? b = some o → h'.get? b = some o) → R (.ok (.ret (items.getD i .none))) { s with heap := h', toks := tk }) :
    codeAny (model PR w) A (.call (.ref f) ⟨[.int (i : Int) t], []⟩) R s := by
  obtain ⟨n, hD⟩ := hD
  exact lam_code hf hcd hlim hroom (LO.bind _ _ _ _ _ _ _) LO.hk LO.hco LO.hgen LO.hcell LO.hkk LO.hkn LO.hd1 LO.hd2 hc hD (by rw [List.getElem?_eq_getElem hi, List.getD_eq_getElem?_getD, List.getElem?_eq_getElem hi]; rfl) hl h
/-- sorted(places, key=lambda k: name[k]) in the law -/
theorem sortCall {Q : Value → Shared → Prop} {nm : Str} {params : Arguments} {scope : Scope} {c Dl : Addr} {items : List Value} {ans : Nat → Nat → Bool} {TT : Value} {p0 p1 p2 p3 p4 p5 p6 pos : Pos}
    (V : LawEnv env) (X : (hd.heap_1 w.params).In g) (T : Top p loose mean mg mb g) (g63 : g.get? 63 = none) (I : LI g b ns q o37 ps m s.heap)
    (hcl : closureFor scope env = pure [(nm, c)]) (hdef : defaultsOf params env = ([], [])) (ht : TriplesOk ps.toList) (hnf : codeAmong pos ps.toList = none) (LO : LamOk nm params scope) (hroom : d < recursionLimit)
    (hc : ∀ h', LS b ns q h' → h'.IsCell c (some (.ref Dl)) ∧ LAt h' Dl items) (hil : items.length = ns.length) (h2 : 2 ≤ ns.length) (h64 : ns.length < 64)
    (kind : ∀ v ∈ items, ∀ h', LS b ns q h' → Looks (model PR w) h' (typeOf v) TT) (hT1 : (TT != Value.type "tuple") = true) (hT2 : (TT == TT) = true)
    (cmp : ∀ i j s (C : Bool → Shared → Prop), i < ns.length → j < ns.length → LS b ns q s.heap → (∀ b o, g.get? b = some o → s.heap.get? b = some o) → (∀ h' tk', (∀ b o, s.heap.get? b = some o → h'.get? b = some o) → C (ans i j) { s with heap := h', toks := tk' }) →
      wpAny (model PR w) ⟨none, d, fr, gu, u + 1 + 1⟩ (keyLt' oneType' (items.getD i .none) (items.getD j .none)) C (fun _ _ => False) s)
    (h : ∀ h' tk D c', LI g b ns q o37 (ps ++ #[rawInt pos.line, rawInt pos.col, .ref c']) m h' → (∀ b o, b ≠ 63 → s.heap.get? b = some o → h'.get? b = some o) → s.heap.objs.size ≤ D → OrderAt h' D ans ns.length → Q (.ref D) { s with heap := h', toks := tk }) :
    wpAny (model PR w) ⟨none, d, fr, gu, u⟩ (eval (.Call (.Name "sorted" p0) [.Name "places" p1] [⟨some "key", .Lambda params (.Subscript (.Name nm p4) (.Name "k" p5) p6) scope pos, p3⟩] p2) env) Q E s := by
  refine callKey (id := "sorted") (nmB X T I.F.keep (by rfl) PyProof.Rows.Boot.sorted (by decide) ⟨rfl, ?_⟩ V.hg V.hb V.hk V.kSorted)
  refine nmL (V.hl ▸ I.F.ns) I.mp ?_ V.hk V.kPlaces
  refine lamK V X T g63 I hcl hdef ht hnf fun h₁ tk₁ f c' pm ctv I₁ keep₁ hf hrec hfo => ?_
  have szle : s.heap.objs.size ≤ h₁.objs.size := Nat.le_trans hf (Nat.le_of_lt (ltN hfo))
  refine sortedLam (s := { s with heap := h₁, toks := tk₁ }) (T := TT) (ans := ans) (items := items) rfl I₁.S.hr h2 h64 hil ?_ ?_ hT1 hT2 ?_ ?_
  · intro i t h tk hi k R hR
    have I₂ := I₁.keeps k
    exact lamCall (s := { s with heap := h, toks := tk }) LO (k _ _ hfo) (hrec.keeps k) ((T.nolimit).keeps fun b o e => I₂.F.keep b o e) hroom (hc _ I₂.S).1 (hc _ I₂.S).2 (by omega) (by omega) hR
  · exact fun v hv h k => kind v hv h (I₁.keeps k).S
  · exact fun i j h tk C hi hj k hC => cmp i j { s with heap := h, toks := tk } C hi hj (I₁.keeps k).S (I₁.keeps k).F.keep hC
  · intro h' tk D k hD ho
    exact h h' tk D c' (I₁.keeps k) (fun b o hb e => k _ _ (keep₁ b o hb e)) (Nat.le_trans szle hD) ho
end
end Mine
end

section
/- part Lu -/
open PySem PySem.W PyProof.Rows PySem.Calls
set_option maxRecDepth 100000
set_option maxHeartbeats 8000000
namespace Mine
/-- the comparison tells of the numerals what the order tells of the numbers -/
def Agree (b : Int) (ns : List Int) : Prop := ∀ x ∈ ns, ∀ y ∈ ns, (cmpv (numB b x) (numB b y) < 0 ↔ x < y) ∧ (0 < cmpv (numB b x) (numB b y) ↔ y < x)
theorem Agree.op {b : Int} {ns : List Int} (h : Agree b ns) {x y : Int} (hx : x ∈ ns) (hy : y ∈ ns) (op : CmpOp) : opB op (cmpv (numB b x) (numB b y)) = opB op (x - y) := by
  have := h x hx y hy
  unfold opB
  split <;> first | rfl | (rw [decide_eq_decide]; omega)
def ansK (b : Int) (ns : List Int) (i j : Nat) : Bool := opB .Lt (cmpv (numB b (ns.getD i 0)) (numB b (ns.getD j 0)))
def ansN (ns : List Int) (i j : Nat) : Bool := decide (ns.getD i 0 < ns.getD j 0)
theorem getD_mem {ns : List Int} {i : Nat} (hi : i < ns.length) : ns.getD i 0 ∈ ns := by
  rw [List.getD_eq_getElem?_getD, List.getElem?_eq_getElem hi]; exact List.getElem_mem hi
theorem ans_eq {b : Int} {ns : List Int} (h : Agree b ns) {i j : Nat} (hi : i < ns.length) (hj : j < ns.length) : ansK b ns i j = ansN ns i j := by
  unfold ansK ansN
  rw [h.op (getD_mem hi) (getD_mem hj)]
  show decide (_ < 0) = _
  rw [decide_eq_decide]; omega
theorem runT_congr {n : Nat} {α : Type} {P : α → Prop} {a1 a2 : Nat → Nat → Bool} (h : ∀ i j, i < n → j < n → a1 i j = a2 i j) : ∀ (t : KasT α), Ask n P t → runT a1 t = runT a2 t
  | .ret _, _ => rfl
  | .ask i j k, ha => by
    show runT a1 (k (a1 i j)) = runT a2 (k (a2 i j))
    rw [h i j ha.1 ha.2.1]
    exact runT_congr h _ (ha.2.2 _)
theorem order_eq {b : Int} {ns : List Int} (h : Agree b ns) (h0 : 0 < ns.length) : orderOf (ansK b ns) ns.length = orderOf (ansN ns) ns.length := by
  unfold orderOf
  rw [runT_congr (fun i j hi hj => ans_eq h hi hj) _ (sort_ask h0)]
theorem keyAt {b : Int} {S : Nat} {h : Heap} {zs : List Value} {ns : List Int} (k : KeysAre b S h zs ns) {i : Nat} (hi : i < ns.length) : ∃ a, zs.getD i .none = .ref a ∧ KAt h a (numB b (ns.getD i 0)) := by
  obtain ⟨a, dx, t, e1, _, _, e4, e5⟩ := k.2 i ns[i] (List.getElem?_eq_getElem hi)
  refine ⟨a, by rw [List.getD_eq_getElem?_getD, e1]; rfl, dx, t, ?_, e5⟩
  rw [List.getD_eq_getElem?_getD, List.getElem?_eq_getElem hi]; exact e4
theorem keyTy {M : Model} {b : Int} {S : Nat} {h : Heap} {zs : List Value} {ns : List Int} (k : KeysAre b S h zs ns) (v : Value) (hv : v ∈ zs) : Looks M h (typeOf v) (.ref 146) := by
  obtain ⟨i, hi, rfl⟩ := List.mem_iff_getElem.mp hv
  obtain ⟨a, e, dx, t, ea, _⟩ := keyAt k (i := i) (by rw [← k.1]; exact hi)
  rw [List.getD_eq_getElem?_getD, List.getElem?_eq_getElem hi] at e
  rw [show zs[i] = .ref a from e]
  exact typeLooks ea
theorem intGet {vs : List Value} {ns : List Int} (hi : IntsAre vs ns) {i : Nat} (h : i < ns.length) : ∃ t, vs.getD i .none = .int (ns.getD i 0) t := by
  obtain ⟨t, e⟩ := intAt hi i ns[i] (List.getElem?_eq_getElem h)
  refine ⟨t, ?_⟩
  rw [List.getD_eq_getElem?_getD, e, List.getD_eq_getElem?_getD, List.getElem?_eq_getElem h]; rfl
theorem intTy {M : Model} {h : Heap} {vs : List Value} {ns : List Int} (hi : IntsAre vs ns) (v : Value) (hv : v ∈ vs) : Looks M h (typeOf v) (.type "int") := by
  obtain ⟨i, hl, rfl⟩ := List.mem_iff_getElem.mp hv
  obtain ⟨t, e⟩ := intGet hi (i := i) (by rw [← hi.length]; exact hl)
  rw [List.getD_eq_getElem?_getD, List.getElem?_eq_getElem hl] at e
  rw [show vs[i] = _ from e]
  exact Looks.of_pure rfl
/-- the numerals are short -/
def Short (b : Int) (ns : List Int) : Prop := ∀ x ∈ ns, (numB b x).size < 1000
section
variable {w : World} {d u : Nat} {fr : Option (List Env)} {gu : Option (List Code)} {s : Shared} {env : Env} {g : Heap} {b : Int} {ns : List Int} {q : LP} {o37 : Obj} {ps : Array Value} {m : Str → Option Value} {p : Program} {loose : List Str} {mean : ExcName → Option Value} {mg mb : Str → Option Value}
/-- statement 6 -/
theorem sortIf {Q : Flow → Shared → Prop} {par1 par2 : Arguments} {sc1 sc2 : Scope} {p0 p1 p2 p3 p4 p5 p6 q0 q1 q2 q3 q4 q5 q6 r0 r1 r2 r3 pos1 pos2 : Pos}
    (V : LawEnv env) (X : (hd.heap_1 w.params).In g) (T : Top p loose mean mg mb g) (g63 : g.get? 63 = none) (I : LI g b ns q o37 ps m s.heap)
    (cl1 : closureFor sc1 env = pure [(("keys" : Str), 71)]) (df1 : defaultsOf par1 env = ([], [])) (LO1 : LamOk "keys" par1 sc1)
    (cl2 : closureFor sc2 env = pure [(("numbers" : Str), 72)]) (df2 : defaultsOf par2 env = ([], [])) (LO2 : LamOk "numbers" par2 sc2)
    (hps : ps = #[]) (hpos : pos1.line ≠ pos2.line)
    (hroom : d + 3 < recursionLimit) (hu : u + 300 < cLine) (h2 : 2 ≤ ns.length) (h64 : ns.length < 64) (hag : Agree b ns) (hsh : Short b ns)
    (h : ∀ h' tk c1 c2, LI g b ns q o37 #[rawInt pos1.line, rawInt pos1.col, .ref c1, rawInt pos2.line, rawInt pos2.col, .ref c2] m h' → Q .next { s with heap := h', toks := tk }) :
    wpAny (model PR w) ⟨none, d, fr, gu, u⟩ (exec (.If (.Compare (.Call (.Name "sorted" p0) [.Name "places" p1] [⟨some "key", .Lambda par1 (.Subscript (.Name "keys" p4) (.Name "k" p5) p6) sc1 pos1, p3⟩] p2) [.NotEq]
      [.Call (.Name "sorted" q0) [.Name "places" q1] [⟨some "key", .Lambda par2 (.Subscript (.Name "numbers" q4) (.Name "k" q5) q6) sc2 pos2, q3⟩] q2] r0) [.Return (some (.Constant (.bool false) 0 r1)) r2] [] r3) env) Q (fun _ _ => False) s := by
  subst hps
  refine wpAny_If (wpAny_isTrue_Compare1 ?_)
  refine sortCall (ans := ansK b ns) (TT := .ref 146) (items := q.zs) (Dl := q.D) V X T g63 I cl1 df1 trivial rfl LO1 (by omega) (fun h' S => ⟨S.cks, S.hD⟩) I.S.kk.1 h2 h64 (fun v hv h' S => keyTy S.kk v hv) rfl rfl ?_ fun h₁ tk₁ D₁ c₁ I₁ keep₁ hD₁ o₁ => ?_
  · intro i j s' C hi hj S k hC
    obtain ⟨ax, ex, kx⟩ := keyAt S.kk hi
    obtain ⟨ay, ey, ky⟩ := keyAt S.kk hj
    rw [ex, ey]
    exact k_keyLt (X.keeps k) (T.keeps k) S.K hroom (by omega) kx ky (hsh _ (getD_mem hi)) (hsh _ (getD_mem hj)) hC
  refine sortCall (s := { s with heap := h₁, toks := tk₁ }) (ans := ansN ns) (TT := .type "int") (items := q.vs) (Dl := q.l) V X T g63 I₁ cl2 df2 trivial ?_ LO2 (by omega) (fun h' S => ⟨S.cn, S.hl⟩) I.S.iv.length h2 h64 (fun v hv h' S => intTy S.iv v hv) rfl rfl ?_ fun h₂ tk₂ D₂ c₂ I₂ keep₂ hD₂ o₂ => ?_
  · simp [codeAmong, rawInt]
    intro hq; omega
  · intro i j s' C hi hj S k hC
    obtain ⟨t1, e1⟩ := intGet S.iv hi
    obtain ⟨t2, e2⟩ := intGet S.iv hj
    rw [e1, e2]
    exact kat_lt_int (hC s'.heap s'.toks fun _ _ e => e)
  obtain ⟨v1, n1, f1, i1⟩ := o₁
  obtain ⟨v2, n2, f2, i2⟩ := o₂
  have hD63 : D₁ ≠ 63 := by
    have := ltN I.e63
    have := Nat.lt_of_lt_of_le this hD₁
    exact Nat.ne_of_gt this
  refine ne_intsK (ns := (orderOf (ansK b ns) ns.length).map fun (i : Nat) => (i : Int)) (ms := (orderOf (ansN ns) ns.length).map fun (i : Nat) => (i : Int)) ⟨_, keep₂ _ _ hD63 f1, rfl, _, rfl⟩ i1 ⟨_, f2, rfl, _, rfl⟩ i2 (by show u + 64 < cLine; omega) ?_
  rw [order_eq hag (by omega)]
  simp only [decide_true, Bool.not_true]
  refine wpAny_truthy_bool ?_
  simp only [Bool.false_eq_true, if_false]
  exact wpAny_execs_nil (h h₂ tk₂ c₁ c₂ I₂)
end
end Mine
end

section
/- part Lv -/
open PySem PySem.W PyProof.Rows PySem.Calls
set_option maxRecDepth 100000
set_option maxHeartbeats 8000000
namespace Mine
def bestK (op : CmpOp) (b : Int) (ns : List Int) (i j : Nat) : Bool := opB op (cmpv (numB b (ns.getD i 0)) (numB b (ns.getD j 0)))
section
variable {w : World} {d u : Nat} {fr : Option (List Env)} {gu : Option (List Code)} {E : Value → Shared → Prop} {s : Shared} {env : Env} {g : Heap} {b : Int} {ns : List Int} {q : LP} {o37 : Obj} {ps : Array Value} {m : Str → Option Value} {p : Program} {loose : List Str} {mean : ExcName → Option Value} {mg mb : Str → Option Value}
theorem LI.store {h h' : Heap} {x : Str} {v : Value} (I : LI g b ns q o37 ps m h) (hn : h'.Ns 68 (fun y => if y = x then some v else m y)) (hs : Heap.SameBut 68 h h') (h1 : ("numerals" : Str) ≠ x) (h2 : ("places" : Str) ≠ x) : LI g b ns q o37 ps (fun y => if y = x then some v else m y) h' where
  F := ⟨hn, fun b o e => hs.extBut b o (Nat.ne_of_lt (Nat.lt_of_lt_of_le (ltN e) I.F.above)) (I.F.keep b o e), I.F.above⟩
  S := I.S.keeps fun b o hb e => hs.extBut b o (Nat.ne_of_gt (Nat.lt_of_lt_of_le (by decide) hb)) e
  mn := (if_neg h1).trans I.mn
  mp := (if_neg h2).trans I.mp
  e37 := hs.extBut _ _ (by decide) I.e37
  e63 := hs.extBut _ _ (by decide) I.e63
theorem storeL {A : Around} {Q : Unit → Shared → Prop} {x : Str} {v : Value} (V : LawEnv env) (I : LI g b ns q o37 ps m s.heap) (k : env.kindOf x = some .local) (h1 : ("numerals" : Str) ≠ x) (h2 : ("places" : Str) ≠ x)
    (h : ∀ h' tk, LI g b ns q o37 ps (fun y => if y = x then some v else m y) h' → Heap.SameBut 68 s.heap h' → Q () { s with heap := h', toks := tk }) : wpAny (model PR w) A (storeName env x v) Q E s := by
  refine wpAny_storeName_local k (V.hl ▸ I.F.ns) (fun h₁ hn₁ hs₁ => ?_) (by rw [V.hk]; rfl)
  rw [V.hl] at hn₁ hs₁
  exact h h₁ _ (I.store hn₁ hs₁ h1 h2) hs₁
theorem lstItem {A : Around} {value slice : Expr} {l : Addr} {vs : List Value} {i : Nat} {t : Tok} {Q : Value → Shared → Prop} (hl : LAt s.heap l vs) (hi : i < vs.length) (hn : vs.length ≤ 1000) (h : Q (vs.getD i .none) s)
    (hs : subscripted slice false (.ref l) (.int (i : Int) t) = operate [.ref l, .int (i : Int) t] (getItem (.ref l) (.int (i : Int) t)) := by with_unfolding_all rfl) (ht : ∀ r, letTemporaryGo value (.ref l) r = pure () := by intro _; with_unfolding_all rfl) :
    wpAny (model PR w) A (subscriptTail value slice (.ref l) (.int (i : Int) t)) Q E s := by
  have hl2 := hl.is
  obtain ⟨n, hl⟩ := hl
  refine subscriptTail_builtin (T := "list") ⟨_, hl, rfl⟩ list_getitem_lookup (wpAny_getItem_list hl2 (by omega) (by omega) (x := vs.getD i .none) ?_ h) hs ht
  rw [List.getD_eq_getElem?_getD, List.getElem?_eq_getElem hi]
  simp [hi]
/-- numbers[min(places, key=lambda k: keys[k])] -/
theorem minItem {Q : Value → Shared → Prop} {params : Arguments} {scope : Scope} {p0 p1 p2 p3 p4 p5 p6 p7 p8 pos : Pos}
    (V : LawEnv env) (X : (hd.heap_1 w.params).In g) (T : Top p loose mean mg mb g) (g63 : g.get? 63 = none) (I : LI g b ns q o37 ps m s.heap)
    (hcl : closureFor scope env = pure [(("keys" : Str), 71)]) (hdef : defaultsOf params env = ([], [])) (ht : TriplesOk ps.toList) (hnf : codeAmong pos ps.toList = none) (LO : LamOk "keys" params scope)
    (hroom : d + 3 < recursionLimit) (hu : u + 300 < cLine) (h0 : 0 < ns.length) (h64 : ns.length < 64) (hsh : Short b ns)
    (h : ∀ h' tk c' t, LI g b ns q o37 (ps ++ #[rawInt pos.line, rawInt pos.col, .ref c']) m h' → (∀ b o, b ≠ 63 → s.heap.get? b = some o → h'.get? b = some o) → Q (.int (ns.getD (bestOf (bestK .Lt b ns) (ns.length - 1)) 0) t) { s with heap := h', toks := tk }) :
    wpAny (model PR w) ⟨none, d, fr, gu, u⟩ (eval (.Subscript (.Name "numbers" p7) (.Call (.Name "min" p0) [.Name "places" p1] [⟨some "key", .Lambda params (.Subscript (.Name "keys" p4) (.Name "k" p5) p6) scope pos, p3⟩] p2) p8) env) Q E s := by
  refine Subscript_ (nmC V.cNumbers I.S.cn ?_ V.hk V.kNumbers)
  refine callKey (id := "min") (nmB X T I.F.keep (by rfl) PyProof.Rows.Boot.min (by decide) ⟨rfl, ?_⟩ V.hg V.hb V.hk V.kMin)
  refine nmL (V.hl ▸ I.F.ns) I.mp ?_ V.hk V.kPlaces
  refine lamK V X T g63 I hcl hdef ht hnf fun h₁ tk₁ f c' pm ctv I₁ keep₁ hf hrec hfo => ?_
  have hzl := I.S.kk.1
  refine minKey (s := { s with heap := h₁, toks := tk₁ }) (n := ns.length) (kvs := q.zs) (better := bestK .Lt b ns) rfl I₁.S.hr h0 (by omega) ?_ ?_ ?_
  · intro i t h tk hi k
    have I₂ := I₁.keeps k
    exact wpAny_call (lamCall (s := { s with heap := h, toks := tk }) LO (k _ _ hfo) (hrec.keeps k) ((T.nolimit).keeps fun b o e => I₂.F.keep b o e) (by show d < recursionLimit; omega) I₂.S.cks I₂.S.hD (by omega) (by omega) fun h' tk' k' => ⟨rfl, h', tk', rfl, k'⟩)
  · intro i j h tk C hi hj k hC
    have I₂ := I₁.keeps k
    obtain ⟨ax, ex, kx⟩ := keyAt I₂.S.kk hi
    obtain ⟨ay, ey, ky⟩ := keyAt I₂.S.kk hj
    rw [ex, ey]
    exact k_rich (s := { s with heap := h, toks := tk }) (X.keeps I₂.F.keep) (T.keeps I₂.F.keep) I₂.S.K hroom (by show u + 1 + 200 < cLine; omega) (.inl rfl) kx ky (hsh _ (getD_mem hi)) (hsh _ (getD_mem hj)) hC
  · intro t h' tk' k
    have I₂ := I₁.keeps k
    have hb : bestOf (bestK .Lt b ns) (ns.length - 1) < ns.length := Nat.lt_of_le_of_lt (bestOf_le _ _) (by omega)
    have hvl := I.S.iv.length
    refine lstItem (s := { s with heap := h', toks := tk' }) I₂.S.hl (by omega) (by omega) ?_
    obtain ⟨t', e⟩ := intGet I.S.iv hb
    rw [e]
    exact h h' tk' c' t' I₂ fun b o hb e => k _ _ (keep₁ b o hb e)
/-- numbers[max(places, key=lambda k: keys[k])] -/
theorem maxItem {Q : Value → Shared → Prop} {params : Arguments} {scope : Scope} {p0 p1 p2 p3 p4 p5 p6 p7 p8 pos : Pos}
    (V : LawEnv env) (X : (hd.heap_1 w.params).In g) (T : Top p loose mean mg mb g) (g63 : g.get? 63 = none) (I : LI g b ns q o37 ps m s.heap)
    (hcl : closureFor scope env = pure [(("keys" : Str), 71)]) (hdef : defaultsOf params env = ([], [])) (ht : TriplesOk ps.toList) (hnf : codeAmong pos ps.toList = none) (LO : LamOk "keys" params scope)
    (hroom : d + 3 < recursionLimit) (hu : u + 300 < cLine) (h0 : 0 < ns.length) (h64 : ns.length < 64) (hsh : Short b ns)
    (h : ∀ h' tk c' t, LI g b ns q o37 (ps ++ #[rawInt pos.line, rawInt pos.col, .ref c']) m h' → (∀ b o, b ≠ 63 → s.heap.get? b = some o → h'.get? b = some o) → Q (.int (ns.getD (bestOf (bestK .Gt b ns) (ns.length - 1)) 0) t) { s with heap := h', toks := tk }) :
    wpAny (model PR w) ⟨none, d, fr, gu, u⟩ (eval (.Subscript (.Name "numbers" p7) (.Call (.Name "max" p0) [.Name "places" p1] [⟨some "key", .Lambda params (.Subscript (.Name "keys" p4) (.Name "k" p5) p6) scope pos, p3⟩] p2) p8) env) Q E s := by
  refine Subscript_ (nmC V.cNumbers I.S.cn ?_ V.hk V.kNumbers)
  refine callKey (id := "max") (nmB X T I.F.keep (by rfl) PyProof.Rows.Boot.max (by decide) ⟨rfl, ?_⟩ V.hg V.hb V.hk V.kMax)
  refine nmL (V.hl ▸ I.F.ns) I.mp ?_ V.hk V.kPlaces
  refine lamK V X T g63 I hcl hdef ht hnf fun h₁ tk₁ f c' pm ctv I₁ keep₁ hf hrec hfo => ?_
  have hzl := I.S.kk.1
  refine maxKey (s := { s with heap := h₁, toks := tk₁ }) (n := ns.length) (kvs := q.zs) (better := bestK .Gt b ns) rfl I₁.S.hr h0 (by omega) ?_ ?_ ?_
  · intro i t h tk hi k
    have I₂ := I₁.keeps k
    exact wpAny_call (lamCall (s := { s with heap := h, toks := tk }) LO (k _ _ hfo) (hrec.keeps k) ((T.nolimit).keeps fun b o e => I₂.F.keep b o e) (by show d < recursionLimit; omega) I₂.S.cks I₂.S.hD (by omega) (by omega) fun h' tk' k' => ⟨rfl, h', tk', rfl, k'⟩)
  · intro i j h tk C hi hj k hC
    have I₂ := I₁.keeps k
    obtain ⟨ax, ex, kx⟩ := keyAt I₂.S.kk hi
    obtain ⟨ay, ey, ky⟩ := keyAt I₂.S.kk hj
    rw [ex, ey]
    exact k_rich (s := { s with heap := h, toks := tk }) (X.keeps I₂.F.keep) (T.keeps I₂.F.keep) I₂.S.K hroom (by show u + 1 + 200 < cLine; omega) (.inr rfl) kx ky (hsh _ (getD_mem hi)) (hsh _ (getD_mem hj)) hC
  · intro t h' tk' k
    have I₂ := I₁.keeps k
    have hb : bestOf (bestK .Gt b ns) (ns.length - 1) < ns.length := Nat.lt_of_le_of_lt (bestOf_le _ _) (by omega)
    have hvl := I.S.iv.length
    refine lstItem (s := { s with heap := h', toks := tk' }) I₂.S.hl (by omega) (by omega) ?_
    obtain ⟨t', e⟩ := intGet I.S.iv hb
    rw [e]
    exact h h' tk' c' t' I₂ fun b o hb e => k _ _ (keep₁ b o hb e)
/-- statement 7 -/
theorem endsA {Q : Flow → Shared → Prop} {par1 par2 : Arguments} {sc1 sc2 : Scope} {p0 p1 p2 p3 p4 p5 p6 p7 p8 q0 q1 q2 q3 q4 q5 q6 q7 q8 r0 r1 r2 pos1 pos2 : Pos}
    (V : LawEnv env) (X : (hd.heap_1 w.params).In g) (T : Top p loose mean mg mb g) (g63 : g.get? 63 = none) (I : LI g b ns q o37 ps m s.heap)
    (cl1 : closureFor sc1 env = pure [(("keys" : Str), 71)]) (df1 : defaultsOf par1 env = ([], [])) (LO1 : LamOk "keys" par1 sc1)
    (cl2 : closureFor sc2 env = pure [(("keys" : Str), 71)]) (df2 : defaultsOf par2 env = ([], [])) (LO2 : LamOk "keys" par2 sc2)
    (ht1 : TriplesOk ps.toList) (hn1 : codeAmong pos1 ps.toList = none) (ht2 : ∀ c, TriplesOk (ps ++ #[rawInt pos1.line, rawInt pos1.col, .ref c]).toList) (hn2 : ∀ c, codeAmong pos2 (ps ++ #[rawInt pos1.line, rawInt pos1.col, .ref c]).toList = none)
    (hroom : d + 3 < recursionLimit) (hu : u + 300 < cLine) (h0 : 0 < ns.length) (h64 : ns.length < 64) (hsh : Short b ns)
    (h : ∀ h' tk ps' De t1 t2, 69 ≤ De → LAt h' De [.int (ns.getD (bestOf (bestK .Lt b ns) (ns.length - 1)) 0) t1, .int (ns.getD (bestOf (bestK .Gt b ns) (ns.length - 1)) 0) t2] → (∃ more, ps' = ps ++ more) → LI g b ns q o37 ps' (fun y => if y = "ends" then some (.ref De) else m y) h' → Q .next { s with heap := h', toks := tk })
    (hs : swapsWith (.List [.Subscript (.Name "numbers" p7) (.Call (.Name "min" p0) [.Name "places" p1] [⟨some "key", .Lambda par1 (.Subscript (.Name "keys" p4) (.Name "k" p5) p6) sc1 pos1, p3⟩] p2) p8,
      .Subscript (.Name "numbers" q7) (.Call (.Name "max" q0) [.Name "places" q1] [⟨some "key", .Lambda par2 (.Subscript (.Name "keys" q4) (.Name "k" q5) q6) sc2 pos2, q3⟩] q2) q8] r1) (some (.Name "ends" r0)) r2.line env = pure false := by rfl) :
    wpAny (model PR w) ⟨none, d, fr, gu, u⟩ (exec (.Assign [.Name "ends" r0] (.List [.Subscript (.Name "numbers" p7) (.Call (.Name "min" p0) [.Name "places" p1] [⟨some "key", .Lambda par1 (.Subscript (.Name "keys" p4) (.Name "k" p5) p6) sc1 pos1, p3⟩] p2) p8,
      .Subscript (.Name "numbers" q7) (.Call (.Name "max" q0) [.Name "places" q1] [⟨some "key", .Lambda par2 (.Subscript (.Name "keys" q4) (.Name "k" q5) q6) sc2 pos2, q3⟩] q2) q8] r1) r2) env) Q (fun _ _ => False) s := by
  refine wpAny_Assign_Name (List_ (spliced_more ?_)) hs
  refine minItem V X T g63 I cl1 df1 ht1 hn1 LO1 hroom hu h0 h64 hsh fun h₁ tk₁ c₁ t₁ I₁ keep₁ => spliced_more ?_
  refine maxItem (s := { s with heap := h₁, toks := tk₁ }) V X T g63 I₁ cl2 df2 (ht2 _) (hn2 _) LO2 hroom hu h0 h64 hsh fun h₂ tk₂ c₂ t₂ I₂ keep₂ => spliced_none (wpAny_newList ?_ (by rw [sizeLine_eq]; exact Nat.le_of_ble_eq_true rfl))
  have hz : 69 ≤ h₂.objs.size := by
    obtain ⟨o, e, _⟩ := I₂.S.cb
    exact Nat.le_of_lt (ltN e)
  refine storeL (s := { s with heap := h₂.push _, toks := tk₂ }) V (I₂.keeps fun b o e => Heap.get?_push_of_some _ e) V.kEnds (by decide) (by decide) fun h₃ tk₃ I₃ hs₃ => ?_
  exact h h₃ tk₃ _ h₂.objs.size t₁ t₂ hz ⟨0, hs₃.extBut _ _ (Nat.ne_of_gt (Nat.lt_of_lt_of_le (by decide) hz)) (Heap.get?_push_size h₂ rfl)⟩ ⟨_, Array.append_assoc ..⟩ I₃
end
end Mine
end

section
/- part Lw -/
open PySem PySem.W PyProof.Rows PySem.Calls
set_option maxRecDepth 100000
set_option maxHeartbeats 8000000
namespace Mine
/-- the five answers -/
def row5 (v : Int) : List Bool := [opB .Lt v, opB .Gt v, opB .Eq v, opB .LtE v, opB .GtE v]
def five (op : CmpOp) : Prop := op = .Lt ∨ op = .Gt ∨ op = .Eq ∨ op = .LtE ∨ op = .GtE
/-- a comparison of x with y answers by the sign of v, from any heap that has grown -/
def Tells (w : World) (A : Around) (x y : Value) (v : Int) (s : Shared) : Prop :=
  ∀ op, five op → ∀ h tk (C : Value → Shared → Prop), (∀ b o, s.heap.get? b = some o → h.get? b = some o) → (∀ h' tk', (∀ b o, h.get? b = some o → h'.get? b = some o) → C (.bool (opB op v)) { s with heap := h', toks := tk' }) →
    wpAny (model PR w) A (compareOp op x y) C (fun _ _ => False) { s with heap := h, toks := tk }
section
variable {w : World} {A : Around} {s : Shared} {env : Env}
theorem cell5 {op : CmpOp} {x y : Value} {v : Int} {h : Heap} {tk : Nat} {mm : Str → Option Value} {p0 p1 p2 : Pos} {Q : Value → Shared → Prop} (T : Tells w A x y v s) (h5 : five op) (keep : ∀ b o, s.heap.get? b = some o → h.get? b = some o)
    (hn : h.Ns env.locals mm) (ma : mm "a" = some x) (mb : mm "b" = some y) (hk : env.scope.kind = .function) (ka : env.kindOf "a" = some .local) (kb : env.kindOf "b" = some .local)
    (hQ : ∀ h' tk', (∀ b o, h.get? b = some o → h'.get? b = some o) → Q (.bool (opB op v)) { s with heap := h', toks := tk' }) (hm : behindInMarks op (.Name "b" p1) = false := by with_unfolding_all rfl) :
    wpAny (model PR w) A (eval (.Compare (.Name "a" p0) [op] [.Name "b" p1] p2) env) Q (fun _ _ => False) { s with heap := h, toks := tk } :=
  wpAny_Compare1 (nmL (s := { s with heap := h, toks := tk }) hn ma (nmL (s := { s with heap := h, toks := tk }) hn mb (T op h5 h tk _ keep hQ) hk kb) hk ka) hm
theorem rowEval {x y : Value} {v : Int} {mm : Str → Option Value} {p00 p01 p02 p10 p11 p12 p20 p21 p22 p30 p31 p32 p40 p41 p42 p5 : Pos} {Q : Value → Shared → Prop} (T : Tells w A x y v s)
    (hn : s.heap.Ns env.locals mm) (ma : mm "a" = some x) (mb : mm "b" = some y) (hk : env.scope.kind = .function) (ka : env.kindOf "a" = some .local) (kb : env.kindOf "b" = some .local)
    (h : ∀ (h' : Heap) tk', (∀ b o, s.heap.get? b = some o → h'.get? b = some o) → Q (.ref h'.objs.size) { s with heap := h'.push { cls := .type "list", data := .seq ((row5 v).map Value.bool).toArray }, toks := tk' }) :
    wpAny (model PR w) A (eval (.List [.Compare (.Name "a" p00) [.Lt] [.Name "b" p01] p02, .Compare (.Name "a" p10) [.Gt] [.Name "b" p11] p12, .Compare (.Name "a" p20) [.Eq] [.Name "b" p21] p22, .Compare (.Name "a" p30) [.LtE] [.Name "b" p31] p32, .Compare (.Name "a" p40) [.GtE] [.Name "b" p41] p42] p5) env) Q (fun _ _ => False) s := by
  refine List_ (spliced_more (cell5 (h := s.heap) (tk := s.toks) T (.inl rfl) (fun _ _ e => e) hn ma mb hk ka kb fun h₁ t₁ k₁ => spliced_more ?_))
  refine cell5 (s := s) T (.inr (.inl rfl)) k₁ (hn.keeps k₁) ma mb hk ka kb fun h₂ t₂ k₂ => spliced_more ?_
  have k₂' : ∀ b o, s.heap.get? b = some o → h₂.get? b = some o := fun b o e => k₂ _ _ (k₁ _ _ e)
  refine cell5 (s := s) T (.inr (.inr (.inl rfl))) k₂' (hn.keeps k₂') ma mb hk ka kb fun h₃ t₃ k₃ => spliced_more ?_
  have k₃' : ∀ b o, s.heap.get? b = some o → h₃.get? b = some o := fun b o e => k₃ _ _ (k₂' _ _ e)
  refine cell5 (s := s) T (.inr (.inr (.inr (.inl rfl)))) k₃' (hn.keeps k₃') ma mb hk ka kb fun h₄ t₄ k₄ => spliced_more ?_
  have k₄' : ∀ b o, s.heap.get? b = some o → h₄.get? b = some o := fun b o e => k₄ _ _ (k₃' _ _ e)
  refine cell5 (s := s) T (.inr (.inr (.inr (.inr rfl)))) k₄' (hn.keeps k₄') ma mb hk ka kb fun h₅ t₅ k₅ => spliced_none (wpAny_newList ?_ (by rw [sizeLine_eq]; exact Nat.le_of_ble_eq_true rfl))
  exact h h₅ t₅ fun b o e => k₅ _ _ (k₄' _ _ e)
end
/-- lists of five answers, all of them from place S on -/
def RowsAre (S : Nat) (h : Heap) (ys : List Value) (vs : List Int) : Prop := ys.length = vs.length ∧ ∀ (i : Nat) (v : Int), vs[i]? = some v → ∃ a, ys[i]? = some (Value.ref a) ∧ S ≤ a ∧ LAt h a ((row5 v).map Value.bool)
theorem RowsAre.keeps {S : Nat} {h h' : Heap} {ys : List Value} {vs : List Int} (x : RowsAre S h ys vs) (k : ∀ b o, S ≤ b → h.get? b = some o → h'.get? b = some o) : RowsAre S h' ys vs :=
  ⟨x.1, fun i v e => let ⟨a, e1, e2, e3⟩ := x.2 i v e; ⟨a, e1, e2, e3.at fun o e => k _ _ e2 e⟩⟩
theorem RowsAre.snoc {S : Nat} {h : Heap} {ys : List Value} {vs : List Int} {v : Int} {a : Nat} (x : RowsAre S h ys vs) (e2 : S ≤ a) (e3 : LAt h a ((row5 v).map Value.bool)) : RowsAre S h (ys ++ [Value.ref a]) (vs ++ [v]) := by
  refine ⟨by simp [x.1], fun i k q => ?_⟩
  by_cases hi : i < vs.length
  · rw [List.getElem?_append_left hi] at q
    obtain ⟨a', g1, r⟩ := x.2 i k q
    exact ⟨a', by rw [List.getElem?_append_left (by rw [x.1]; exact hi)]; exact g1, r⟩
  · rw [List.getElem?_append_right (by omega)] at q
    have h0 : i - vs.length = 0 := by
      rcases Nat.eq_zero_or_pos (i - vs.length) with q' | q'
      · exact q'
      · rw [List.getElem?_eq_none (by simp; omega)] at q; cases q
    rw [h0] at q
    cases q
    have : i = ys.length := by rw [x.1]; omega
    exact ⟨a, by rw [this]; simp, e2, e3⟩
end Mine
end

section
/- part Lx -/
open PySem PySem.W PyProof.Rows PySem.Calls
set_option maxRecDepth 100000
set_option maxHeartbeats 8000000
namespace Mine
section
variable {w : World} {A : Around} {s : Shared} {env : Env} {g : Heap} {b : Int} {ns : List Int} {q : LP} {o37 : Obj} {ps : Array Value} {m : Str → Option Value}
theorem pairs_ok {xs zs : List Value} {vs : List Int} {l1 l2 : Nat} {y : Str} {py : Pos} {scope : Scope} {iter : Expr} {p00 p01 p02 p10 p11 p12 p20 p21 p22 p30 p31 p32 p40 p41 p42 p5 p6 p7 p8 p9 : Pos} {Q : Value → Shared → Prop}
    (hh : A.handled = none) (V : LawEnv env) (I : LI g b ns q o37 ps m s.heap) (hl1 : LAt s.heap l1 xs) (hl2 : LAt s.heap l2 zs) (hlen : zs.length = xs.length) (hle : xs.length ≤ 100) (hv : vs.length = xs.length)
    (hkind : scope.kind = .function) (ha : scope.names.lookup ("a" : Str) = some .local) (hb : scope.names.lookup ("b" : Str) = some .local) (ky : env.kindOf y = some .local) (y1 : ("numerals" : Str) ≠ y) (y2 : ("places" : Str) ≠ y)
    (tell : ∀ i v h tk, vs[i]? = some v → LI g b ns q o37 ps m h → Tells w A (xs.getD i .none) (zs.getD i .none) v { s with heap := h, toks := tk })
    (h : ∀ h' tk D ys, LI g b ns q o37 ps (fun z => if z = y then some (.ref D) else m z) h' → (∀ b o, b ≠ 68 → s.heap.get? b = some o → h'.get? b = some o) → 69 ≤ D → LAt h' D ys → RowsAre 69 h' ys vs → Q .none { s with heap := h', toks := tk }) :
    wpAny (model PR w) A (call (.type "zip") [.ref l1, .ref l2]) (fun x s₁ => wpAny (model PR w) A (pyIter x) (fun it s₂ =>
      ∀ h₄, h₄.get? s₂.heap.objs.size = some { cls := .type "list", data := .seq #[] } → h₄.Ns (s₂.heap.objs.size + 1) (fun _ => none) → (∀ b o, s₂.heap.get? b = some o → h₄.get? b = some o) → h₄.objs.size = s₂.heap.objs.size + 2 →
        codeAny (model PR w) A (.compStart (.ListComp (.List [.Compare (.Name "a" p00) [.Lt] [.Name "b" p01] p02, .Compare (.Name "a" p10) [.Gt] [.Name "b" p11] p12, .Compare (.Name "a" p20) [.Eq] [.Name "b" p21] p22, .Compare (.Name "a" p30) [.LtE] [.Name "b" p31] p32, .Compare (.Name "a" p40) [.GtE] [.Name "b" p41] p42] p5)
          [⟨.Tuple [.Name "a" p6, .Name "b" p7] 0 p8, iter, [], 0⟩] scope p9) 0 it (.ref s₂.heap.objs.size) (compEnvC scope [] (s₂.heap.objs.size + 1) env))
          (CPostA (model PR w) A (some (assign (.Name y py) env)) Q s₂.heap.objs.size (s₂.heap.objs.size + 1)) { s₂ with heap := h₄ }) (fun _ _ => False) s₁) (fun _ _ => False) s := by
  refine call_zip_2 hl1.is hl2.is fun h₁ hz hTI hTO i1 i2 z1 k1 => wpAny_pyIter_zip hz ?_
  intro h₄ hD hN k4 z4
  dsimp only at hD hN k4 z4 ⊢
  rw [z1] at hD hN z4 ⊢
  have hS69 : 69 ≤ s.heap.objs.size := by
    obtain ⟨o, e, _⟩ := I.S.cb
    exact Nat.le_of_lt (ltN e)
  obtain ⟨n1, e1⟩ := id hl1
  obtain ⟨n2, e2⟩ := id hl2
  have lt1 := ltN e1
  have lt2 := ltN e2
  generalize hS : s.heap.objs.size = S at *
  have ap : ZipApart (S + 4) (S + 2) (S + 3) S (S + 1) l1 l2 := by constructor <;> (show @Ne Nat _ _; omega)
  have hn : min xs.toArray.size zs.toArray.size = xs.length := by simp [hlen]
  have W := WalksT.zip2 (prog := PR) (w := w) hh _ _ _ _ _ _ _ ap xs.toArray zs.toArray
  rw [hn] at W
  have away : ∀ (c : Nat), c < S ∨ S + 7 ≤ c → c ∉ (S + 5) :: (S + 5 + 1) :: [S + 4, S + 3, S, S + 1] := fun c hc => by
    simp only [List.mem_cons, List.not_mem_nil, or_false, not_or]
    refine ⟨?_, ?_, ?_, ?_, ?_, ?_⟩ <;> (show @Ne Nat c _; omega)
  have k14 : ∀ b o, s.heap.get? b = some o → h₄.get? b = some o := fun b o e => k4 _ _ (k1 _ _ e)
  refine pairLoop (D := S + 5) (I := S + 4) (J := fun i ys h => i ≤ vs.length ∧ RowsAre (S + 7) h ys (vs.take i)) hh W (lookup_relabel_local ha) (lookup_relabel_local hb) (by simp [compEnvC, relabel, hkind]) (by decide) ?_ ?_ ?_ (by omega) (fun i ys h j => by have e := j.2.1; rw [List.length_take] at e; omega)
    (fun i ys h h' j k => ⟨j.1, j.2.keeps fun b o hb e => k b o (away b (.inr hb)) e⟩) (by rintro i v ⟨x, y, _, _, rfl⟩; exact ⟨_, _, rfl⟩) ?_ ?_
    ⟨k4 _ _ hz, k4 _ _ hTI, ⟨_, _, k4 _ _ hTO⟩, i1.at fun o e => k4 _ _ e, i2.at fun o e => k4 _ _ e, (hl1.at fun o e => k14 _ _ e).is, (hl2.at fun o e => k14 _ _ e).is⟩ ⟨Nat.zero_le _, ⟨by simp, fun i n q => by simp at q⟩⟩ hD hN
  · simp only [List.mem_cons, List.not_mem_nil, or_false, not_or]
    refine ⟨?_, ?_, ?_, ?_, ?_, ?_, ?_⟩ <;> (show @Ne Nat (S + 5) _; omega)
  · show S + 5 + 1 ∉ _
    simp only [List.mem_cons, List.not_mem_nil, or_false, not_or]
    refine ⟨?_, ?_, ?_, ?_, ?_, ?_, ?_⟩ <;> (show @Ne Nat (S + 5 + 1) _; omega)
  · show @Ne Nat (S + 5 + 1) (S + 5); omega
  · rintro i ys hp tk mm x y' hi ⟨x2, y2, hx, hy, hxy⟩ ⟨j1, j2⟩ keep hns ma mb ⟨oD, hoD⟩
    obtain ⟨rfl, rfl⟩ : x = x2 ∧ y' = y2 := by simpa using hxy
    have keepS : ∀ b o, s.heap.get? b = some o → hp.get? b = some o := fun b o e => keep b o (away b (.inl (by have := ltN e; omega))) (k14 _ _ e)
    have hiv : i < vs.length := by omega
    have ex : xs.getD i .none = x := by rw [List.getD_eq_getElem?_getD, show xs[i]? = some x by simpa using hx]; rfl
    have ey : zs.getD i .none = y' := by rw [List.getD_eq_getElem?_getD, show zs[i]? = some y' by simpa using hy]; rfl
    have tl := tell i vs[i] hp tk (List.getElem?_eq_getElem hiv) (I.keeps keepS)
    rw [ex, ey] at tl
    refine wpAny_tests_nil ?_
    simp only [if_true]
    refine rowEval (s := { s with heap := hp, toks := tk }) tl hns ma mb (by simp [compEnvC, relabel, hkind]) (lookup_relabel_local ha) (lookup_relabel_local hb) fun h' tk' k' => ?_
    refine ⟨_, tk', rfl, fun b o e => Heap.get?_push_of_some _ (k' _ _ e), hiv, ?_⟩
    rw [List.take_add_one, List.getElem?_eq_getElem hiv]
    have hz2 : S + 5 + 1 < h'.objs.size := nsN (hns.keeps k')
    refine (j2.keeps fun b o _ e => Heap.get?_push_of_some _ (k' _ _ e)).snoc (by omega) ⟨0, Heap.get?_push_size _ rfl⟩
  · rintro hp tk ys mm ⟨j1, j2⟩ keep hD' hns
    have keepS : ∀ b o, s.heap.get? b = some o → hp.get? b = some o := fun b o e => keep b o (away b (.inl (by have := ltN e; omega))) (k14 _ _ e)
    have hvx : vs.take xs.length = vs := List.take_of_length_le (by omega)
    rw [hvx] at j2
    have I' := I.keeps keepS
    have hloc : (compEnvC scope [] (S + 5 + 1) env).locals = S + 5 + 1 := rfl
    rw [hloc] at hns
    show wpAny _ _ (assign (.Name y py) env (.ref (S + 5))) _ _ _
    refine wpAny_assign_Name (storeL (s := { s with heap := hp, toks := tk }) V I' ky y1 y2 fun h₂ tk₂ I₂ hs₂ => ?_)
    refine ⟨mm, hns.sameBut hs₂ (by show @Ne Nat (S + 5 + 1) 68; omega), fun h₃ hs₃ => ?_⟩
    have up : ∀ b o, b ≠ 68 → b ≠ S + 5 + 1 → hp.get? b = some o → h₃.get? b = some o := fun b o b1 b2 e => hs₃.extBut b o b2 (hs₂.extBut b o b1 e)
    refine h h₃ tk₂ (S + 5) ys ?_ ?_ (show @LE.le Nat _ 69 (S + 5) by omega) ?_ ?_
    · have hgs : g.objs.size ≤ 68 := I.F.above
      exact ⟨⟨I₂.F.ns.sameBut hs₃ (by show @Ne Nat 68 (S + 5 + 1); omega), fun b o e => hs₃.extBut b o (by have := ltN e; show @Ne Nat b (S + 5 + 1); omega) (I₂.F.keep b o e), I₂.F.above⟩,
        I.S.keeps fun c o hc e => up c o (Nat.ne_of_gt (Nat.lt_of_lt_of_le (by decide) hc)) (by have := ltN e; show @Ne Nat c (S + 5 + 1); omega) (keepS _ _ e), I₂.mn, I₂.mp, hs₃.extBut _ _ (by show @Ne Nat 37 (S + 5 + 1); omega) I₂.e37, hs₃.extBut _ _ (by show @Ne Nat 63 (S + 5 + 1); omega) I₂.e63⟩
    · exact fun b o hb e => up b o hb (by have := ltN e; show @Ne Nat b (S + 5 + 1); omega) (keepS _ _ e)
    · exact ⟨_, up _ _ (by show @Ne Nat (S + 5) 68; omega) (by show @Ne Nat (S + 5) (S + 5 + 1); omega) hD'⟩
    · refine ⟨j2.1, fun i v e => ?_⟩
      obtain ⟨a, e1, e2, e3⟩ := j2.2 i v e
      have e2' : @LE.le Nat _ (S + 7) a := e2
      exact ⟨a, e1, (by omega : @LE.le Nat _ 69 a), e3.at fun o e => up _ _ (by show @Ne Nat a 68; omega) (by show @Ne Nat a (S + 5 + 1); omega) e⟩
end
end Mine
end

section
/- part Ly -/
open PySem PySem.W PyProof.Rows PySem.Calls
set_option maxRecDepth 100000
set_option maxHeartbeats 8000000
namespace Mine
section
variable {w : World} {A : Around} {E : Value → Shared → Prop} {s : Shared} {env : Env} {g : Heap} {b : Int} {ns : List Int} {q : LP} {o37 : Obj} {ps : Array Value} {m : Str → Option Value} {p : Program} {loose : List Str} {mean : ExcName → Option Value} {mg mb : Str → Option Value}
/-- name[1:] + name[:1] -/
theorem turned {nm : Str} {c Dl : Addr} {items : List Value} {r2 r3 r4 r5 r6 r7 r8 r9 r10 : Pos} {Q : Value → Shared → Prop} (hk : env.scope.kind = .function) (kn : env.kindOf nm = some .cell) (cn : env.cells.lookup nm = some c) (hd1 : (nm == ("__debug__" : Str)) = false)
    (hc : s.heap.IsCell c (some (.ref Dl))) (hl : LAt s.heap Dl items) (hle : items.length ≤ 100)
    (h : ∀ h' tk D, (∀ b o, s.heap.get? b = some o → h'.get? b = some o) → LAt h' D (items.drop 1 ++ items.take 1) → Q (.ref D) { s with heap := h', toks := tk }) :
    wpAny (model PR w) A (eval (.BinOp (.Subscript (.Name nm r2) (.Slice (some (.Constant (.int 1) 0 r3)) none none r4) r5) .Add (.Subscript (.Name nm r6) (.Slice none (some (.Constant (.int 1) 0 r7)) none r8) r9) r10) env) Q E s := by
  refine wpAny_BinOp (wpAny_Subscript_list_slice (nmC cn hc (wpAny_evalPart_some (wpAny_Constant_int (wpAny_evalPart_none ?_))) hk kn hd1))
  refine ⟨Dl, items.toArray, some 1, none, rfl, hl.is, by rw [sizeLine_eq]; simp; omega, .int _ _, .none, ?_⟩
  have e1 : slicePick items.toArray (some 1) none none = (items.drop 1).toArray := slicePick_from' items.toArray 1
  rw [e1]
  have k1 : ∀ (o1 o2 : Obj) b o, s.heap.get? b = some o → ((s.heap.push o1).push o2).get? b = some o := fun o1 o2 b o e => Heap.get?_push_of_some _ (Heap.get?_push_of_some _ e)
  refine wpAny_Subscript_list_slice (nmC cn (hc.keeps (k1 _ _)) (wpAny_evalPart_none (wpAny_evalPart_some (wpAny_Constant_int ?_))) hk kn hd1)
  refine ⟨Dl, items.toArray, none, some 1, rfl, (hl.at fun o e => k1 _ _ _ _ e).is, by rw [sizeLine_eq]; simp; omega, .none, .int _ _, ?_⟩
  have e2 : slicePick items.toArray none (some 1) none = (items.take 1).toArray := slicePick_upto' items.toArray 1
  rw [e2]
  dsimp only
  generalize hH : (s.heap.push { cls := .type "slice", data := .fields #[.int 1 s.toks, .none, .none] }).push { cls := .type "list", data := .seq (items.drop 1).toArray } = H
  have kH : ∀ b o, s.heap.get? b = some o → H.get? b = some o := fun b o e => hH ▸ k1 _ _ b o e
  have gH : H.get? (s.heap.objs.size + 1) = some { cls := .type "list", data := .seq (items.drop 1).toArray } := by
    rw [← hH]
    have := Heap.get?_push_size (s.heap.push { cls := .type "slice", data := .fields #[.int 1 s.toks, .none, .none] }) (o := { cls := .type "list", data := .seq (items.drop 1).toArray }) rfl
    rw [Heap.size_push] at this
    exact this
  have g2 : ∀ o1 : Obj, ((H.push o1).push { cls := .type "list", data := .seq (items.take 1).toArray }).get? (H.objs.size + 1) = some { cls := .type "list", data := .seq (items.take 1).toArray } := fun o1 => by
    have := Heap.get?_push_size (H.push o1) (o := { cls := .type "list", data := .seq (items.take 1).toArray }) rfl
    rw [Heap.size_push] at this
    exact this
  refine PySem.P.add_list (n := 0) (n2 := 0) (items := (items.drop 1).toArray) (items2 := (items.take 1).toArray) (Heap.get?_push_of_some _ (Heap.get?_push_of_some _ gH)) (g2 _) ?_ (by rw [sizeLine_eq]; simp; omega)
  refine h _ _ _ (fun b o e => Heap.get?_push_of_some _ (Heap.get?_push_of_some _ (Heap.get?_push_of_some _ (kH _ _ e)))) ⟨0, ?_⟩
  have e3 : (items.drop 1).toArray ++ (items.take 1).toArray = (items.drop 1 ++ items.take 1).toArray := by simp
  rw [e3]
  exact Heap.get?_push_size _ rfl
/-- statements 8 and 9 -/
theorem pairsA {nm y : Str} {c Dl : Addr} {items : List Value} {vs : List Int} {py : Pos} {scope : Scope} {p00 p01 p02 p10 p11 p12 p20 p21 p22 p30 p31 p32 p40 p41 p42 p5 p6 p7 p8 p9 r0 r1 r2 r3 r4 r5 r6 r7 r8 r9 r10 r11 sp : Pos} {Q : Flow → Shared → Prop}
    (hh : A.handled = none) (V : LawEnv env) (X : (hd.heap_1 w.params).In g) (T : Top p loose mean mg mb g) (I : LI g b ns q o37 ps m s.heap)
    (kn : env.kindOf nm = some .cell) (cn : env.cells.lookup nm = some c) (hd1 : (nm == ("__debug__" : Str)) = false) (hc : s.heap.IsCell c (some (.ref Dl))) (hl : LAt s.heap Dl items) (hle : items.length ≤ 100) (hv : vs.length = items.length)
    (hclos : closureFor scope env = pure []) (hcell : ∀ y ∈ scope.names, y.2 ≠ .cell) (hkind : scope.kind = .function) (hnames : ∀ x ∈ scope.names, x.2 = .local → scope.names.lookup x.1 = some .local)
    (ha : scope.names.lookup ("a" : Str) = some .local) (hb : scope.names.lookup ("b" : Str) = some .local) (ky : env.kindOf y = some .local) (y1 : ("numerals" : Str) ≠ y) (y2 : ("places" : Str) ≠ y)
    (tell : ∀ i v s, vs[i]? = some v → LI g b ns q o37 ps m s.heap → Tells w A (items.getD i .none) ((items.drop 1 ++ items.take 1).getD i .none) v s)
    (h : ∀ h' tk D ys, LI g b ns q o37 ps (fun z => if z = y then some (.ref D) else m z) h' → (∀ b o, b ≠ 68 → s.heap.get? b = some o → h'.get? b = some o) → 69 ≤ D → LAt h' D ys → RowsAre 69 h' ys vs → Q .next { s with heap := h', toks := tk })
    (hsw : swapsWith (.ListComp (.List [.Compare (.Name "a" p00) [.Lt] [.Name "b" p01] p02, .Compare (.Name "a" p10) [.Gt] [.Name "b" p11] p12, .Compare (.Name "a" p20) [.Eq] [.Name "b" p21] p22, .Compare (.Name "a" p30) [.LtE] [.Name "b" p31] p32, .Compare (.Name "a" p40) [.GtE] [.Name "b" p41] p42] p5)
          [⟨.Tuple [.Name "a" p6, .Name "b" p7] 0 p8, .Call (.Name "zip" r0) [.Name nm r1, .BinOp (.Subscript (.Name nm r2) (.Slice (some (.Constant (.int 1) 0 r3)) none none r4) r5) .Add (.Subscript (.Name nm r6) (.Slice none (some (.Constant (.int 1) 0 r7)) none r8) r9) r10] [] r11, [], 0⟩] scope p9) (some (.Name y py)) sp.line env = pure true) :
    wpAny (model PR w) A (exec (.Assign [.Name y py] (.ListComp (.List [.Compare (.Name "a" p00) [.Lt] [.Name "b" p01] p02, .Compare (.Name "a" p10) [.Gt] [.Name "b" p11] p12, .Compare (.Name "a" p20) [.Eq] [.Name "b" p21] p22, .Compare (.Name "a" p30) [.LtE] [.Name "b" p31] p32, .Compare (.Name "a" p40) [.GtE] [.Name "b" p41] p42] p5)
          [⟨.Tuple [.Name "a" p6, .Name "b" p7] 0 p8, .Call (.Name "zip" r0) [.Name nm r1, .BinOp (.Subscript (.Name nm r2) (.Slice (some (.Constant (.int 1) 0 r3)) none none r4) r5) .Add (.Subscript (.Name nm r6) (.Slice none (some (.Constant (.int 1) 0 r7)) none r8) r9) r10] [] r11, [], 0⟩] scope p9) sp) env) Q (fun _ _ => False) s := by
  refine assignCompA hsw (compA (use := some (assign (.Name y py) env)) hclos hcell hkind hnames (Call_ (nmB X T I.F.keep (by rfl) PyProof.Rows.Boot.zip (by decide) ?_ V.hg V.hb V.hk V.kZip)))
  refine PyProof.Rows.callWith_type1 (args_cons (nmC cn hc (args_cons (turned V.hk kn cn hd1 hc hl hle fun h₁ tk₁ D₁ k₁ l₁ => args_nil ?_)) V.hk kn hd1))
  refine pairs_ok (s := { s with heap := h₁, toks := tk₁ }) hh V (I.keeps k₁) (hl.at fun o e => k₁ _ _ e) l₁ (by simp; omega) hle hv hkind ha hb ky y1 y2 (fun i v h tk e I' => tell i v { s with heap := h, toks := tk } e I') ?_
  intro h' tk D ys I' keep hD hL hR
  exact h h' tk D ys I' (fun b o hb e => keep b o hb (k₁ _ _ e)) hD hL hR
end
end Mine
end

section
/- part Lz -/
open PySem PySem.W PyProof.Rows PySem.Calls PySem.SeqAt
set_option maxRecDepth 100000
set_option maxHeartbeats 8000000
namespace Mine
section
variable {prog : Program} {w : World} {A : Around} {E : Value → Shared → Prop} {s : Shared}
theorem minL {l : Addr} {vs : List Value} {ns : List Int} {Q : Value → Shared → Prop} (hh : A.handled = none) (hl : s.heap.IsList l vs.toArray) (hi : IntsAre vs ns) (hne : 0 < ns.length)
    (h : ∀ h' M (t : Tok) tk, (∀ b o, s.heap.get? b = some o → h'.get? b = some o) → M ∈ ns → (∀ a, a ∈ ns → M ≤ a) → Q (.int M t) { s with heap := h', toks := tk }) :
    wpAny (model prog w) A (call (.builtin "min") [.ref l]) Q E s := by
  obtain ⟨xs, e⟩ := hi.allInts.items
  have hns : ns = xs.toList.map (·.1) := by
    rw [← hi.numsOf, ← nums_intItems, ← e]
  have hsz : 0 < xs.size := by
    have h3 := hne; rw [hns, List.length_map, Array.length_toList] at h3; exact h3
  rw [e] at hl
  refine min_intList hh hl hsz fun v h' tk hv hk => ?_
  obtain ⟨t, rfl⟩ := intItems_at hv
  obtain ⟨h1, h2⟩ := argBest_lt (numAt xs) (xs.size - 1)
  refine h _ _ t tk hk ?_ fun a ha => ?_
  · rw [hns, numAt_eq]; exact Mine.getD_mem (by rw [List.length_map, Array.length_toList]; omega)
  · rw [hns] at ha
    obtain ⟨j, hj, rfl⟩ := mem_getD ha
    rw [List.length_map, Array.length_toList] at hj
    rw [← numAt_eq]; exact h2 j (by omega)
theorem maxL {l : Addr} {vs : List Value} {ns : List Int} {Q : Value → Shared → Prop} (hh : A.handled = none) (hl : s.heap.IsList l vs.toArray) (hi : IntsAre vs ns) (hne : 0 < ns.length)
    (h : ∀ h' M (t : Tok) tk, (∀ b o, s.heap.get? b = some o → h'.get? b = some o) → M ∈ ns → (∀ a, a ∈ ns → a ≤ M) → Q (.int M t) { s with heap := h', toks := tk }) :
    wpAny (model prog w) A (call (.builtin "max") [.ref l]) Q E s := by
  obtain ⟨xs, e⟩ := hi.allInts.items
  have hns : ns = xs.toList.map (·.1) := by
    rw [← hi.numsOf, ← nums_intItems, ← e]
  have hsz : 0 < xs.size := by
    have h3 := hne; rw [hns, List.length_map, Array.length_toList] at h3; exact h3
  rw [e] at hl
  refine max_intList hh hl hsz fun v h' tk hv hk => ?_
  obtain ⟨t, rfl⟩ := intItems_at hv
  obtain ⟨h1, h2⟩ := argBest_gt (numAt xs) (xs.size - 1)
  refine h _ _ t tk hk ?_ fun a ha => ?_
  · rw [hns, numAt_eq]; exact Mine.getD_mem (by rw [List.length_map, Array.length_toList]; omega)
  · rw [hns] at ha
    obtain ⟨j, hj, rfl⟩ := mem_getD ha
    rw [List.length_map, Array.length_toList] at hj
    rw [← numAt_eq]; exact h2 j (by omega)
end
theorem bestK_eq {b : Int} {ns : List Int} (h : Agree b ns) {i j : Nat} (hi : i < ns.length) (hj : j < ns.length) (op : CmpOp) : bestK op b ns i j = opB op (ns.getD i 0 - ns.getD j 0) := h.op (Mine.getD_mem hi) (Mine.getD_mem hj) op
theorem best_least {b : Int} {ns : List Int} (h : Agree b ns) : ∀ j, j < ns.length → ∀ i, i ≤ j → ns.getD (bestOf (bestK .Lt b ns) j) 0 ≤ ns.getD i 0
  | 0, _, i, hi => by obtain rfl : i = 0 := by omega
                      exact Int.le_refl _
  | j + 1, hj, i, hi => by
    have ih := best_least h j (by omega)
    have hb := bestOf_le (bestK .Lt b ns) j
    have e := bestK_eq h (i := j + 1) (j := bestOf (bestK .Lt b ns) j) hj (by omega) .Lt
    show ns.getD (if bestK .Lt b ns (j + 1) (bestOf (bestK .Lt b ns) j) = true then j + 1 else bestOf (bestK .Lt b ns) j) 0 ≤ _
    split
    · rename_i ht
      rw [e] at ht
      have ht' := of_decide_eq_true ht
      by_cases hij : i = j + 1
      · rw [hij]; exact Int.le_refl _
      · have := ih i (by omega); omega
    · rename_i hf
      rw [e] at hf
      have hf' : ¬ (ns.getD (j + 1) 0 - ns.getD (bestOf (bestK .Lt b ns) j) 0 < 0) := fun q => hf (decide_eq_true q)
      by_cases hij : i = j + 1
      · rw [hij]; omega
      · exact ih i (by omega)
theorem best_most {b : Int} {ns : List Int} (h : Agree b ns) : ∀ j, j < ns.length → ∀ i, i ≤ j → ns.getD i 0 ≤ ns.getD (bestOf (bestK .Gt b ns) j) 0
  | 0, _, i, hi => by obtain rfl : i = 0 := by omega
                      exact Int.le_refl _
  | j + 1, hj, i, hi => by
    have ih := best_most h j (by omega)
    have hb := bestOf_le (bestK .Gt b ns) j
    have e := bestK_eq h (i := j + 1) (j := bestOf (bestK .Gt b ns) j) hj (by omega) .Gt
    show _ ≤ ns.getD (if bestK .Gt b ns (j + 1) (bestOf (bestK .Gt b ns) j) = true then j + 1 else bestOf (bestK .Gt b ns) j) 0
    split
    · rename_i ht
      rw [e] at ht
      have ht' := of_decide_eq_true ht
      by_cases hij : i = j + 1
      · rw [hij]; exact Int.le_refl _
      · have := ih i (by omega); omega
    · rename_i hf
      rw [e] at hf
      have hf' : ¬ (ns.getD (j + 1) 0 - ns.getD (bestOf (bestK .Gt b ns) j) 0 > 0) := fun q => hf (decide_eq_true q)
      by_cases hij : i = j + 1
      · rw [hij]; omega
      · exact ih i (by omega)
theorem mem_idx {ns : List Int} {x : Int} (h : x ∈ ns) : ∃ i, i < ns.length ∧ ns.getD i 0 = x := by
  obtain ⟨i, hi, e⟩ := List.mem_iff_getElem.mp h
  exact ⟨i, hi, by rw [List.getD_eq_getElem?_getD, List.getElem?_eq_getElem hi]; exact e⟩
theorem least_is {b : Int} {ns : List Int} (h : Agree b ns) (h0 : 0 < ns.length) {M : Int} (hm : M ∈ ns) (hl : ∀ a, a ∈ ns → M ≤ a) : ns.getD (bestOf (bestK .Lt b ns) (ns.length - 1)) 0 = M := by
  obtain ⟨i, hi, rfl⟩ := mem_idx hm
  have h1 := best_least h (ns.length - 1) (by omega) i (by omega)
  have h2 := hl _ (Mine.getD_mem (i := bestOf (bestK .Lt b ns) (ns.length - 1)) (Nat.lt_of_le_of_lt (bestOf_le _ _) (by omega)))
  omega
theorem most_is {b : Int} {ns : List Int} (h : Agree b ns) (h0 : 0 < ns.length) {M : Int} (hm : M ∈ ns) (hl : ∀ a, a ∈ ns → a ≤ M) : ns.getD (bestOf (bestK .Gt b ns) (ns.length - 1)) 0 = M := by
  obtain ⟨i, hi, rfl⟩ := mem_idx hm
  have h1 := best_most h (ns.length - 1) (by omega) i (by omega)
  have h2 := hl _ (Mine.getD_mem (i := bestOf (bestK .Gt b ns) (ns.length - 1)) (Nat.lt_of_le_of_lt (bestOf_le _ _) (by omega)))
  omega
def rowD (r : List Bool) : PyData := .list (r.map PyData.bool)
theorem reads_bools {h : Heap} : ∀ r : List Bool, ReadsAll h (r.map Value.bool) (r.map PyData.bool) []
  | [] => .nil
  | x :: r => .cons (.bool x) (reads_bools r)
theorem reads_row {h : Heap} {a : Addr} {r : List Bool} (x : LAt h a (r.map Value.bool)) : Reads h (.ref a) (rowD r) [a] := by
  obtain ⟨n, e⟩ := x
  exact Reads.list e rfl rfl (by simpa using reads_bools r)
theorem reads_rowsAll {S : Nat} {h : Heap} : ∀ (vs : List Int) (ys : List Value), RowsAre S h ys vs → ∃ as, ReadsAll h ys ((vs.map row5).map rowD) as
  | [], ys, x => by
    obtain rfl : ys = [] := List.length_eq_zero_iff.mp x.1
    exact ⟨_, .nil⟩
  | v :: vs, ys, x => by
    cases ys with
    | nil => exact absurd x.1 (by simp)
    | cons y ys =>
      obtain ⟨a, e1, _, e3⟩ := x.2 0 v rfl
      cases e1
      obtain ⟨as, r⟩ := reads_rowsAll vs ys ⟨by simpa using x.1, fun i v' e => x.2 (i + 1) v' (by simpa using e)⟩
      exact ⟨_, .cons (reads_row e3) r⟩
theorem reads_rows {S : Nat} {h : Heap} {D : Addr} {ys : List Value} {vs : List Int} (l : LAt h D ys) (x : RowsAre S h ys vs) : ∃ as, Reads h (.ref D) (.list ((vs.map row5).map rowD)) as := by
  obtain ⟨n, e⟩ := l
  obtain ⟨as, r⟩ := reads_rowsAll vs ys x
  exact ⟨_, Reads.list e rfl rfl (by simpa using r)⟩
theorem bools_can : ∀ r : List Bool, PyData.canLayAll0 (r.map PyData.bool) = true
  | [] => by simp [PyData.canLayAll0]
  | x :: r => by simp [PyData.canLayAll0, PyData.canLay0, bools_can r]
theorem bools_depth : ∀ r : List Bool, PyData.depthAll (r.map PyData.bool) ≤ 1
  | [] => by simp [PyData.depthAll]
  | x :: r => by
    have := bools_depth r
    simp only [List.map_cons, PyData.depthAll, PyData.depth]; omega
theorem rows_can : ∀ rs : List (List Bool), PyData.canLayAll0 (rs.map rowD) = true
  | [] => by simp [PyData.canLayAll0]
  | x :: r => by simp [PyData.canLayAll0, rowD, PyData.canLay0, bools_can x]; exact rows_can r
theorem rows_depth : ∀ rs : List (List Bool), PyData.depthAll (rs.map rowD) ≤ 3
  | [] => by simp [PyData.depthAll]
  | x :: r => by
    have := rows_depth r
    have h1 := bools_depth x
    simp only [List.map_cons, PyData.depthAll, rowD, PyData.depth] at this ⊢; omega
theorem rows_shaped (rs : List (List Bool)) : shaped (.list (rs.map rowD)) = true := by
  have h1 := rows_depth rs
  have h2 : PyData.depth (.list (rs.map rowD)) ≤ 64 := by simp only [PyData.depth]; omega
  show (PyData.canLay0 (.list (rs.map rowD)) && decide (PyData.depth (.list (rs.map rowD)) ≤ 64)) = true
  rw [Bool.and_eq_true]
  exact ⟨by simp only [PyData.canLay0]; exact rows_can rs, decide_eq_true h2⟩
theorem bools_mix : ∀ r r' : List Bool, noMixAll (r.map PyData.bool) (r'.map PyData.bool) = true
  | [], [] => by simp [noMixAll]
  | [], _ :: _ => by simp [noMixAll]
  | _ :: _, [] => by simp [noMixAll]
  | _ :: r, _ :: r' => by simp [noMixAll, noMix, bools_mix r r']
theorem rows_mix : ∀ r r' : List (List Bool), noMixAll (r.map rowD) (r'.map rowD) = true
  | [], [] => by simp [noMixAll]
  | [], _ :: _ => by simp [noMixAll]
  | _ :: _, [] => by simp [noMixAll]
  | x :: r, y :: r' => by simp only [List.map_cons, noMixAll, rowD, noMix, bools_mix x y, Bool.true_and]; exact rows_mix r r'
end Mine
end

section
/- part Ma -/
open PySem PySem.W PyProof.Rows PySem.Calls PySem.SeqAt
set_option maxRecDepth 100000
set_option maxHeartbeats 8000000
namespace Mine
/-- the next place, round about -/
def nxt (n i : Nat) : Nat := if i + 1 < n then i + 1 else 0
theorem nxt_lt {n i : Nat} (h : i < n) : nxt n i < n := by unfold nxt; split <;> omega
theorem turn_get {α : Type} (l : List α) {i : Nat} (h : i < l.length) : (l.drop 1 ++ l.take 1)[i]? = l[nxt l.length i]? := by
  unfold nxt
  split
  · rename_i h1
    rw [List.getElem?_append_left (by simp; omega), List.getElem?_drop, Nat.add_comm]
  · rename_i h1
    rw [List.getElem?_append_right (by simp; omega)]
    have : i - (l.drop 1).length = 0 := by simp; omega
    rw [this, List.getElem?_take_of_lt (by omega)]
theorem turn_getD {α : Type} (l : List α) (d : α) {i : Nat} (h : i < l.length) : (l.drop 1 ++ l.take 1).getD i d = l.getD (nxt l.length i) d := by
  rw [List.getD_eq_getElem?_getD, List.getD_eq_getElem?_getD, turn_get l h]
/-- the neighbours' differences, by a given measure -/
def nbr (f : Int → Int → Int) (ns : List Int) : List Int := (List.range ns.length).map fun i => f (ns.getD i 0) (ns.getD (nxt ns.length i) 0)
theorem nbr_length (f : Int → Int → Int) (ns : List Int) : (nbr f ns).length = ns.length := by simp [nbr]
theorem nbr_get {f : Int → Int → Int} {ns : List Int} {i : Nat} {v : Int} (e : (nbr f ns)[i]? = some v) : i < ns.length ∧ v = f (ns.getD i 0) (ns.getD (nxt ns.length i) 0) := by
  have hi : i < ns.length := by
    have := (List.getElem?_eq_some_iff.mp e).1
    rwa [nbr_length] at this
  unfold nbr at e
  rw [List.getElem?_map, List.getElem?_range hi] at e
  exact ⟨hi, (Option.some.inj e).symm⟩
abbrev vsK (b : Int) (ns : List Int) : List Int := nbr (fun x y => cmpv (numB b x) (numB b y)) ns
abbrev vsN (ns : List Int) : List Int := nbr (fun x y => x - y) ns
theorem rows_agree {b : Int} {ns : List Int} (h : Agree b ns) : (vsK b ns).map row5 = (vsN ns).map row5 := by
  unfold vsK vsN nbr
  rw [List.map_map, List.map_map]
  refine List.map_congr_left fun i hi => ?_
  have hi' : i < ns.length := List.mem_range.mp hi
  have hx := Mine.getD_mem hi'
  have hy := Mine.getD_mem (nxt_lt hi')
  simp only [Function.comp, row5, h.op hx hy]
section
variable {w : World} {d u : Nat} {fr : Option (List Env)} {gu : Option (List Code)} {s : Shared} {env : Env} {g : Heap} {b : Int} {ns : List Int} {q : LP} {o37 : Obj} {ps : Array Value} {m : Str → Option Value} {p : Program} {loose : List Str} {mean : ExcName → Option Value} {mg mb : Str → Option Value}
theorem tellK {i : Nat} {v : Int} (X : (hd.heap_1 w.params).In g) (T : Top p loose mean mg mb g) (hroom : d + 3 < recursionLimit) (hu : u + 300 < cLine) (hsh : Short b ns) (e : (vsK b ns)[i]? = some v) (I : LI g b ns q o37 ps m s.heap) :
    Tells w ⟨none, d, fr, gu, u⟩ (q.zs.getD i .none) ((q.zs.drop 1 ++ q.zs.take 1).getD i .none) v s := by
  obtain ⟨hi, rfl⟩ := nbr_get e
  intro op h5 h tk C k hC
  have hz := I.S.kk.1
  have I₂ := I.keeps k
  obtain ⟨ax, ex, kx⟩ := keyAt I₂.S.kk hi
  obtain ⟨ay, ey, ky⟩ := keyAt I₂.S.kk (nxt_lt hi)
  rw [turn_getD q.zs .none (by omega), hz, ex, ey]
  exact k_compare (s := { s with heap := h, toks := tk }) (X.keeps I₂.F.keep) (T.keeps I₂.F.keep) I₂.S.K hroom (by omega) h5 kx ky (hsh _ (Mine.getD_mem hi)) (hsh _ (Mine.getD_mem (nxt_lt hi))) hC
theorem tellN {A : Around} {i : Nat} {v : Int} (e : (vsN ns)[i]? = some v) (I : LI g b ns q o37 ps m s.heap) : Tells w A (q.vs.getD i .none) ((q.vs.drop 1 ++ q.vs.take 1).getD i .none) v s := by
  obtain ⟨hi, rfl⟩ := nbr_get e
  intro op h5 h tk C k hC
  have hz := I.S.iv.length
  obtain ⟨t1, e1⟩ := intGet I.S.iv hi
  obtain ⟨t2, e2⟩ := intGet I.S.iv (nxt_lt hi)
  rw [turn_getD q.vs .none (by omega), hz, e1, e2]
  generalize ns.getD i 0 = x at *
  generalize ns.getD (nxt ns.length i) 0 = y at *
  have fin := hC h tk fun _ _ e => e
  rcases h5 with rfl | rfl | rfl | rfl | rfl
  · refine PyProof.Rows.lt_int ?_
    have eb : decide (x < y) = opB .Lt (x - y) := by show _ = decide (_ < 0); rw [decide_eq_decide]; omega
    rw [eb]; exact fin
  · refine PyProof.Rows.gt_int ?_
    have eb : decide (y < x) = opB .Gt (x - y) := by show _ = decide (_ > 0); rw [decide_eq_decide]; omega
    rw [eb]; exact fin
  · refine PyProof.Rows.eq_int ?_
    have eb : (x == y) = opB .Eq (x - y) := by show decide (x = y) = decide (_ = 0); rw [decide_eq_decide]; omega
    rw [eb]; exact fin
  · refine PyProof.Rows.le_int ?_
    have eb : decide (x ≤ y) = opB .LtE (x - y) := by show _ = decide (_ ≤ 0); rw [decide_eq_decide]; omega
    rw [eb]; exact fin
  · refine PyProof.Rows.ge_int ?_
    have eb : decide (y ≤ x) = opB .GtE (x - y) := by show _ = decide (_ ≥ 0); rw [decide_eq_decide]; omega
    rw [eb]; exact fin
/-- statement 10 -/
theorem endsIf {Q : Flow → Shared → Prop} {De Dt Dd : Addr} {yt yd : List Value} {t1 t2 : Tok} {p0 p1 p2 p3 p4 p5 p6 p7 p8 p9 p10 p11 r0 r1 r2 r3 : Pos}
    (V : LawEnv env) (X : (hd.heap_1 w.params).In g) (T : Top p loose mean mg mb g) (I : LI g b ns q o37 ps m s.heap) (hu : u + 300 < cLine) (h0 : 0 < ns.length) (hag : Agree b ns)
    (me : m "ends" = some (.ref De)) (mt : m "told" = some (.ref Dt)) (md : m "due" = some (.ref Dd))
    (he : LAt s.heap De [.int (ns.getD (bestOf (bestK .Lt b ns) (ns.length - 1)) 0) t1, .int (ns.getD (bestOf (bestK .Gt b ns) (ns.length - 1)) 0) t2])
    (ht : LAt s.heap Dt yt) (rt : RowsAre 69 s.heap yt (vsK b ns)) (hd : LAt s.heap Dd yd) (rd : RowsAre 69 s.heap yd (vsN ns))
    (h : ∀ h' tk, (∀ b o, s.heap.get? b = some o → h'.get? b = some o) → Q .next { s with heap := h', toks := tk }) :
    wpAny (model PR w) ⟨none, d, fr, gu, u⟩ (exec (.If (.BoolOp .Or [.Compare (.Name "told" p0) [.NotEq] [.Name "due" p1] p2, .Compare (.Name "ends" p3) [.NotEq] [.List [.Call (.Name "min" p4) [.Name "numbers" p5] [] p6, .Call (.Name "max" p7) [.Name "numbers" p8] [] p9] p10] p11] r0)
      [.Return (some (.Constant (.bool false) 0 r1)) r2] [] r3) env) Q (fun _ _ => False) s := by
  obtain ⟨a1, d1⟩ := reads_rows ht rt
  obtain ⟨a2, d2⟩ := reads_rows hd rd
  have hns : s.heap.Ns env.locals m := V.hl ▸ I.F.ns
  refine wpAny_If (isTrue_or (wpAny_isTrue_Compare1 (nmL hns mt (nmL hns md ?_ V.hk V.kDue) V.hk V.kTold)))
  refine ne_dataH_same d1 d2 (rows_shaped _) (rows_shaped _) (by show u + 64 < cLine; omega) (by simp only [noMix]; exact rows_mix _ _) ?_
  rw [rows_agree hag, PySem.Spec.same_self]
  refine wpAny_truthy_bool ?_
  simp only [Bool.not_true, Bool.false_eq_true, if_false]
  refine isTrue_or (wpAny_isTrue_Compare1 (nmL hns me ?_ V.hk V.kEnds))
  refine List_ (spliced_more (Call_ (nmB X T I.F.keep (by rfl) PyProof.Rows.Boot.min (by decide) ?_ V.hg V.hb V.hk V.kMin)))
  refine callWith_builtin1 (nmC V.cNumbers I.S.cn ?_ V.hk V.kNumbers)
  refine minL rfl I.S.hl.is I.S.iv h0 fun h₁ M₁ t₁ tk₁ k₁ hM₁ hl₁ => spliced_more ?_
  have I₁ := I.keeps k₁
  refine Call_ (nmB (s := { s with heap := h₁, toks := tk₁ }) X T I₁.F.keep (by rfl) PyProof.Rows.Boot.max (by decide) ?_ V.hg V.hb V.hk V.kMax)
  refine callWith_builtin1 (nmC (s := { s with heap := h₁, toks := tk₁ }) V.cNumbers I₁.S.cn ?_ V.hk V.kNumbers)
  refine maxL (s := { s with heap := h₁, toks := tk₁ }) rfl I₁.S.hl.is I.S.iv h0 fun h₂ M₂ t₂ tk₂ k₂ hM₂ hl₂ => spliced_none (wpAny_newList ?_ (by rw [sizeLine_eq]; exact Nat.le_of_ble_eq_true rfl))
  have k2 : ∀ b o, s.heap.get? b = some o → (h₂.push { cls := .type "list", data := .seq ([.int M₁ t₁, .int M₂ t₂] : List Value).toArray }).get? b = some o := fun b o e => Heap.get?_push_of_some _ (k₂ _ _ (k₁ _ _ e))
  rw [least_is hag h0 hM₁ hl₁, most_is hag h0 hM₂ hl₂] at he
  refine ne_intsK (ns := [M₁, M₂]) (ms := [M₁, M₂]) (vs := [.int M₁ t1, .int M₂ t2]) (us := [.int M₁ t₁, .int M₂ t₂]) (he.at fun o e => k2 _ _ e).is (.cons _ _ (.cons _ _ .nil)) ⟨_, Heap.get?_push_size _ rfl, rfl, _, rfl⟩ (.cons _ _ (.cons _ _ .nil)) (by show u + 64 < cLine; omega) ?_
  simp only [decide_true, Bool.not_true]
  refine wpAny_truthy_bool ?_
  simp only [Bool.false_eq_true, if_false]
  refine isTrue_or_nil ?_
  simp only [Bool.false_eq_true, if_false]
  exact wpAny_execs_nil (h _ _ k2)
end
end Mine
end

section
/- part Mb -/
open PySem PySem.W PyProof.Rows PySem.Calls
set_option maxRecDepth 100000
set_option maxHeartbeats 8000000
namespace Mine
section
variable {M : Model} {A : Around} {E : Value → Shared → Prop} {s : Shared} {env : Env}
theorem ifCC {test : Expr} {body orelse : List Stmt} {pos : Pos} {Q : Flow → Shared → Prop}
    (h : wpC M A (isTrue test env (eval test env)) (fun b s' => if b = true then wpC M A (execs body env) Q E s' else wpC M A (execs orelse env) Q E s') E s) : wpC M A (exec (.If test body orelse pos) env) Q E s := by
  rw [exec_If]
  refine wpC_bind (wpC_standAt (wpC_bind (wpC_mono h (fun b s' h' => ?_) fun _ _ x => x)))
  cases b with
  | true => simpa using h'
  | false => simpa using h'
theorem testC {l : Expr} {op : CmpOp} {r : Expr} {pos : Pos} {whole : Sem Value} {Q : Bool → Shared → Prop}
    (h : wpC M A (eval l env) (fun a s₁ => wpC M A (eval r env) (fun b s₂ => wpAny M A (compareOp op a b) (fun c s₃ => wpAny M A (truthy c) Q E s₃) E s₂) E s₁) E s)
    (hm : behindInMarks op r = false := by with_unfolding_all rfl) : wpC M A (isTrue (.Compare l [op] [r] pos) env whole) Q E s := by
  rw [isTrue_Compare1, markedBehindIn_of_false hm]
  refine wpC_bind (wpC_mono h (fun a s₁ h₁ => wpC_bind (wpC_holding (wpC_mono h₁ (fun b s₂ h₂ => wpC_bind (wpC_standAt ?_)) fun _ _ x => x))) fun _ _ x => x)
  exact wpC_bind (wpC_of (wpAny_operating (wpAny_mono h₂ (fun c s₃ h₃ => wpC_holding (wpC_of h₃)) fun _ _ x => x)))
theorem compareC {l : Expr} {op : CmpOp} {r : Expr} {pos : Pos} {Q : Value → Shared → Prop}
    (h : wpC M A (eval l env) (fun a s₁ => wpC M A (eval r env) (fun b s₂ => wpAny M A (compareOp op a b) Q E s₂) E s₁) E s)
    (hm : behindInMarks op r = false := by with_unfolding_all rfl) : wpC M A (eval (.Compare l [op] [r] pos) env) Q E s := by
  rw [eval_Compare1, markedBehindIn_of_false hm]
  refine wpC_bind (wpC_mono h (fun a s₁ h₁ => wpC_bind (wpC_holding (wpC_mono h₁ (fun b s₂ h₂ => wpC_bind (wpC_standAt ?_)) fun _ _ x => x))) fun _ _ x => x)
  exact wpC_of (wpAny_operating h₂)
end
section
variable {w : World} {d u : Nat} {fr : Option (List Env)} {gu : Option (List Code)} {s : Shared} {env : Env} {g : Heap} {b : Int} {ns : List Int} {q : LP} {o37 : Obj} {ps : Array Value} {m : Str → Option Value} {p : Program} {loose : List Str} {mean : ExcName → Option Value} {mg mb : Str → Option Value}
theorem lensC {Q : Value → Shared → Prop} {cl : List (Str × Addr)} {scope : Scope} {p0 p1 p2 p3 p4 p5 : Pos}
    (V : LawEnv env) (X : (hd.heap_1 w.params).In g) (T : Top p loose mean mg mb g) (I : LI g b ns q o37 ps m s.heap) (h64 : ns.length < 64) (hsh : Short b ns)
    (hclos : closureFor scope env = pure cl) (hcell : ∀ y ∈ scope.names, y.2 ≠ .cell) (hkind : scope.kind = .function) (hnames : ∀ x ∈ scope.names, x.2 = .local → scope.names.lookup x.1 = some .local) (hxn : scope.names.lookup ("numeral" : Str) = some .local)
    (hkl : ∀ C, (compEnvC scope cl C env).kindOf "len" = some .globalImplicit)
    (h : ∀ h' tk ys D, (∀ b o, s.heap.get? b = some o → h'.get? b = some o) → LAt h' D ys → IntsAre ys (ns.map fun n => ((numB b n).size : Int)) → Q (.ref D) { s with heap := h', toks := tk }) :
    wpC (model PR w) ⟨none, d, fr, gu, u⟩ (eval (.ListComp (.Call (.Name "len" p0) [.Name "numeral" p1] [] p2) [⟨.Name "numeral" p3, .Name "numerals" p4, [], 0⟩] scope p5) env) Q (fun _ _ => False) s := by
  have hyl := I.S.ny.1
  refine compListC0 (l := q.dn) (items := q.ys) (fun i zs h => i ≤ ns.length ∧ IntsAre zs ((ns.take i).map fun n => ((numB b n).size : Int))) rfl hclos hcell hkind hnames hxn I.S.hn.is (by omega) (fun i zs h j => by have e := j.2.length; rw [List.length_map, List.length_take] at e; omega)
    (fun h k => ⟨Nat.zero_le _, by rw [List.take_zero]; exact .nil⟩) (fun i zs h h' j k => j) ?_ ?_ (fun _ => rfl) (fun Q' q' => nmL (V.hl ▸ I.F.ns) I.mn q' V.hk V.kNumerals)
  · rintro i zs h₁ tk mm v hv ⟨j1, j2⟩ keep₁ hns hmx hex
    have hlt : i < ns.length := by
      have := (List.getElem?_eq_some_iff.mp hv).1
      omega
    obtain ⟨t, ht⟩ := I.S.ny.2 i ns[i] (List.getElem?_eq_getElem hlt)
    rw [hv] at ht
    cases ht
    have hk2 : (compEnvC scope cl (s.heap.objs.size + 2) env).scope.kind = .function := by simp [compEnvC, relabel, hkind]
    have hkn : (compEnvC scope cl (s.heap.objs.size + 2) env).kindOf "numeral" = some .local := lookup_relabel_local hxn
    have kg : ∀ b o, g.get? b = some o → h₁.get? b = some o := fun b o e => keep₁ _ _ (I.F.keep _ _ e)
    have hs := hsh _ (List.getElem_mem hlt)
    refine wpC_of (Call_ (nmB (s := { s with heap := h₁, toks := tk }) X T kg (by rfl) PyProof.Rows.Boot.len (by decide) (callWith_builtin1 (nmL (s := { s with heap := h₁, toks := tk }) hns hmx (len_bytes (by omega) ?_) hk2 hkn)) V.hg V.hb hk2 (hkl _)))
    refine ⟨h₁, _, rfl, fun _ _ e => e, hlt, ?_⟩
    rw [List.take_add_one, List.getElem?_eq_getElem hlt, List.map_append]
    exact ksk_snoc j2
  · rintro h₁ tk zs ⟨j1, j2⟩ keep₁ hD
    rw [hyl, List.take_length] at j2
    exact h h₁ tk zs _ keep₁ (LAt.ofLst hD) j2
theorem sizesC {Q : Value → Shared → Prop} {cl : List (Str × Addr)} {scope : Scope} {p0 p1 p2 p3 p4 p5 p6 : Pos}
    (V : LawEnv env) (X : (hd.heap_1 w.params).In g) (T : Top p loose mean mg mb g) (I : LI g b ns q o37 ps m s.heap) (h64 : ns.length < 64) (hroom : d + 3 < recursionLimit) (hn0 : ∀ n ∈ ns, 0 ≤ n)
    (hclos : closureFor scope env = pure cl) (hcell : ∀ y ∈ scope.names, y.2 ≠ .cell) (hkind : scope.kind = .function) (hnames : ∀ x ∈ scope.names, x.2 = .local → scope.names.lookup x.1 = some .local) (hxn : scope.names.lookup ("number" : Str) = some .local)
    (hks : ∀ C, (compEnvC scope cl C env).kindOf "_law_size" = some .globalImplicit) (hkb : ∀ C, (compEnvC scope cl C env).kindOf "bias" = some .cell) (c2 : cl.lookup ("bias" : Str) = some 69)
    (h : ∀ h' tk ys D, (∀ b o, s.heap.get? b = some o → h'.get? b = some o) → LAt h' D ys → IntsAre ys (ns.map fun n => szs b (n.toNat + 2) n 0 0 1) → Q (.ref D) { s with heap := h', toks := tk }) :
    wpC (model PR w) ⟨none, d, fr, gu, u⟩ (eval (.ListComp (.Call (.Name "_law_size" p0) [.Name "number" p1, .Name "bias" p2] [] p3) [⟨.Name "number" p4, .Name "numbers" p5, [], 0⟩] scope p6) env) Q (fun _ _ => False) s := by
  obtain ⟨o54, fd54, e54, d54⟩ : ∃ o fd, g.get? 54 = some o ∧ o.data = .func fd := ⟨_, _, X 54 _ rfl, rfl⟩
  have hvl := I.S.iv.length
  refine compListC0 (l := q.l) (items := q.vs) (fun i zs h => i ≤ ns.length ∧ IntsAre zs ((ns.take i).map fun n => szs b (n.toNat + 2) n 0 0 1)) rfl hclos hcell hkind hnames hxn I.S.hl.is (by omega) (fun i zs h j => by have e := j.2.length; rw [List.length_map, List.length_take] at e; omega)
    (fun h k => ⟨Nat.zero_le _, by rw [List.take_zero]; exact .nil⟩) (fun i zs h h' j k => j) ?_ ?_ (fun _ => rfl) (fun Q' q' => nmC V.cNumbers I.S.cn q' V.hk V.kNumbers)
  · rintro i zs h₁ tk mm v hv ⟨j1, j2⟩ keep₁ hns hmx hex
    have hlt : i < ns.length := by
      have := (List.getElem?_eq_some_iff.mp hv).1
      omega
    obtain ⟨t, ht⟩ := intAt I.S.iv i ns[i] (List.getElem?_eq_getElem hlt)
    rw [hv] at ht
    cases ht
    have hk2 : (compEnvC scope cl (s.heap.objs.size + 2) env).scope.kind = .function := by simp [compEnvC, relabel, hkind]
    have hkn : (compEnvC scope cl (s.heap.objs.size + 2) env).kindOf "number" = some .local := lookup_relabel_local hxn
    have kg : ∀ b o, g.get? b = some o → h₁.get? b = some o := fun b o e => keep₁ _ _ (I.F.keep _ _ e)
    have I₁ := I.keeps keep₁
    refine wpC_of (Call_ (nmK (s := { s with heap := h₁, toks := tk }) X T kg (by rfl) (cwFun1A d54 (args_cons (nmL (s := { s with heap := h₁, toks := tk }) hns hmx (args_cons (nmC (s := { s with heap := h₁, toks := tk }) c2 I₁.S.cb (args_nil ⟨kg _ _ e54, wpAny_call ?_⟩) hk2 (hkb _))) hk2 hkn))) V.hg hk2 (hks _)))
    refine size_code (X.keeps kg) (T.keeps kg) (by omega) (hn0 _ (List.getElem_mem hlt)) fun h₂ tk₂ t₂ k₂ => ?_
    refine ⟨h₂, tk₂, rfl, k₂, hlt, ?_⟩
    rw [List.take_add_one, List.getElem?_eq_getElem hlt, List.map_append]
    exact ksk_snoc j2
  · rintro h₁ tk zs ⟨j1, j2⟩ keep₁ hD
    rw [hvl, List.take_length] at j2
    exact h h₁ tk zs _ keep₁ (LAt.ofLst hD) j2
/-- the law's count is the numeral's length -/
def Counts (b : Int) (ns : List Int) : Prop := ∀ n ∈ ns, ((numB b n).size : Int) = szs b (n.toNat + 2) n 0 0 1
/-- statement 11 -/
theorem sizeIf {Q : Flow → Shared → Prop} {cl1 cl2 : List (Str × Addr)} {sc1 sc2 : Scope} {p0 p1 p2 p3 p4 p5 q0 q1 q2 q3 q4 q5 q6 r0 r1 r2 r3 : Pos}
    (V : LawEnv env) (X : (hd.heap_1 w.params).In g) (T : Top p loose mean mg mb g) (I : LI g b ns q o37 ps m s.heap) (h64 : ns.length < 64) (hroom : d + 3 < recursionLimit) (hu : u + 300 < cLine) (hn0 : ∀ n ∈ ns, 0 ≤ n) (hsh : Short b ns) (hco : Counts b ns)
    (hclos1 : closureFor sc1 env = pure cl1) (hcell1 : ∀ y ∈ sc1.names, y.2 ≠ .cell) (hkind1 : sc1.kind = .function) (hnames1 : ∀ x ∈ sc1.names, x.2 = .local → sc1.names.lookup x.1 = some .local) (hxn1 : sc1.names.lookup ("numeral" : Str) = some .local)
    (hkl : ∀ C, (compEnvC sc1 cl1 C env).kindOf "len" = some .globalImplicit)
    (hclos2 : closureFor sc2 env = pure cl2) (hcell2 : ∀ y ∈ sc2.names, y.2 ≠ .cell) (hkind2 : sc2.kind = .function) (hnames2 : ∀ x ∈ sc2.names, x.2 = .local → sc2.names.lookup x.1 = some .local) (hxn2 : sc2.names.lookup ("number" : Str) = some .local)
    (hks : ∀ C, (compEnvC sc2 cl2 C env).kindOf "_law_size" = some .globalImplicit) (hkb : ∀ C, (compEnvC sc2 cl2 C env).kindOf "bias" = some .cell) (c2 : cl2.lookup ("bias" : Str) = some 69)
    (h : ∀ h' tk, (∀ b o, s.heap.get? b = some o → h'.get? b = some o) → Q .next { s with heap := h', toks := tk }) :
    wpC (model PR w) ⟨none, d, fr, gu, u⟩ (exec (.If (.Compare (.ListComp (.Call (.Name "len" p0) [.Name "numeral" p1] [] p2) [⟨.Name "numeral" p3, .Name "numerals" p4, [], 0⟩] sc1 p5) [.NotEq]
      [.ListComp (.Call (.Name "_law_size" q0) [.Name "number" q1, .Name "bias" q2] [] q3) [⟨.Name "number" q4, .Name "numbers" q5, [], 0⟩] sc2 q6] r0) [.Return (some (.Constant (.bool false) 0 r1)) r2] [] r3) env) Q (fun _ _ => False) s := by
  refine ifCC (testC (lensC V X T I h64 hsh hclos1 hcell1 hkind1 hnames1 hxn1 hkl fun h₁ tk₁ ys₁ D₁ k₁ l₁ i₁ => ?_))
  refine sizesC (s := { s with heap := h₁, toks := tk₁ }) V X T (I.keeps k₁) h64 hroom hn0 hclos2 hcell2 hkind2 hnames2 hxn2 hks hkb c2 fun h₂ tk₂ ys₂ D₂ k₂ l₂ i₂ => ?_
  refine ne_intsK (l₁.at fun o e => k₂ _ _ e).is i₁ l₂.is i₂ (by show u + 64 < cLine; omega) ?_
  rw [List.map_congr_left hco]
  simp only [decide_true, Bool.not_true]
  refine wpAny_truthy_bool ?_
  simp only [Bool.false_eq_true, if_false]
  exact wpC_of (wpAny_execs_nil (h h₂ tk₂ fun b o e => k₂ _ _ (k₁ _ _ e)))
end
end Mine
end

section
/- part Mc -/
open PySem PySem.W PyProof.Rows PySem.Calls
set_option maxRecDepth 100000
set_option maxHeartbeats 8000000
namespace Mine
theorem slot_join : Slot "bytes" "join" "bytes.join" :=
  .of (owner := "bytes") (n := "join") (by rw [typeLookup_type, builtinLookup_eq_fast]; kernel_rfl) (by decide +kernel) (by decide +kernel) (by decide +kernel)
    (by first | exact .inl (by decide +kernel) | exact .inr (by decide +kernel)) (by rw [isSubtype_type]; kernel_rfl)
theorem type_join : typeOf (.builtin "bytes.join") = pure (.type "method_descriptor") := by show builtinType _ = _; rw [builtinType_eq_fast]; kernel_rfl
theorem entry_join : entryFor table "bytes.join" = some Builtin.«bytes.join» := entryFor_of_tree (by kernel_rfl)
theorem args_join (a b : Value) : argsOk "bytes.join" ⟨[a, b], []⟩ := by
  unfold argsOk; rw [signature?_of (id := "bytes.join") (n := ['n', 'i', 'o', 'j']) (o := ['s', 'e', 't', 'y', 'b']) (by kernel_rfl) FB.owner_bytes]; kernel_rfl
theorem slot_upper : Slot "bytes" "upper" "bytes.upper" :=
  .of (owner := "bytes") (n := "upper") (by rw [typeLookup_type, builtinLookup_eq_fast]; kernel_rfl) (by decide +kernel) (by decide +kernel) (by decide +kernel)
    (by first | exact .inl (by decide +kernel) | exact .inr (by decide +kernel)) (by rw [isSubtype_type]; kernel_rfl)
theorem type_upper : typeOf (.builtin "bytes.upper") = pure (.type "method_descriptor") := by show builtinType _ = _; rw [builtinType_eq_fast]; kernel_rfl
theorem entry_upper : entryFor table "bytes.upper" = some Builtin.«bytes.upper» := entryFor_of_tree (by kernel_rfl)
theorem args_upper (a : Value) : argsOk "bytes.upper" ⟨[a], []⟩ := by
  unfold argsOk; rw [signature?_of (id := "bytes.upper") (n := ['r', 'e', 'p', 'p', 'u']) (o := ['s', 'e', 't', 'y', 'b']) (by kernel_rfl) FB.owner_bytes]; kernel_rfl
theorem take_eq {id : String} {b : Array UInt8} {t : Tok} : Builtin.Bytes.takeBufferQuiet? id (.bytes b t) 0 = pure (some (b, none)) := by
  unfold Builtin.Bytes.takeBufferQuiet? Builtin.Bytes.takeBuffer?
  rw [KBy.special_eq KBy.look_buffer, KBy.own_buffer]
  have e : ∀ f, f = false → Builtin.Bytes.buffer? id (.bytes b t) f = pure (some b) := fun f hf => by rw [hf]; exact KBy.buffer_eq
  simp only [pure_bind]
  rw [e _ (by decide)]
  rfl
theorem fold_sizes : ∀ (l : List (Array UInt8)) (k : Nat), l.foldl (fun a x => a + x.size) k = k + (l.map (·.size)).sum
  | [], k => by simp
  | x :: l, k => by
    rw [List.foldl_cons, fold_sizes l]
    simp only [List.map_cons, List.sum_cons]
    omega
theorem join_flat : ∀ (l : List (Array UInt8)) (k : Nat) (out : Array UInt8), (l.zipIdx k).foldl (fun out (x : Array UInt8 × Nat) => (if x.2 > 0 then out ++ #[] else out) ++ x.1) out = out ++ (l.map (·.toList)).flatten.toArray
  | [], k, out => by simp
  | x :: l, k, out => by
    rw [List.zipIdx_cons, List.foldl_cons, join_flat l]
    have : (if k > 0 then out ++ #[] else out) = out := by split <;> simp
    rw [this]
    apply Array.toList_inj.mp
    simp
theorem joined_eq (l : List (Array UInt8)) : Builtin.Bytes.joined #[] l = (l.map (·.toList)).flatten.toArray := by
  have := join_flat l 0 #[]
  rw [Array.empty_append] at this
  exact this
theorem flat_size : ∀ l : List (Array UInt8), ((l.map (·.toList)).flatten.toArray).size = (l.map (·.size)).sum
  | [] => by simp
  | x :: l => by
    have := flat_size l
    simp at this ⊢
    exact this
section
variable {prog : Program} {w : World} {A : Around} {E : Value → Shared → Prop} {s : Shared}
theorem range_loop {M : Model} {β : Type} {f : Nat → β → Sem (ForInStep β)} {Q : β → Shared → Prop} (I : Nat → β → Prop) : ∀ (n a : Nat) (b : β), I a b →
    (∀ i b, a ≤ i → i < a + n → I i b → wpAny M A (f i b) (fun r s' => s' = s ∧ ∃ b', r = .yield b' ∧ I (i + 1) b') E s) → (∀ b, I (a + n) b → Q b s) → wpAny M A (forIn (List.range' a n) b f) Q E s
  | 0, a, b, h0, _, hQ => by
    simp only [List.range'_zero, List.forIn_nil]
    exact wpAny_pure (hQ b h0)
  | n + 1, a, b, h0, step, hQ => by
    simp only [List.range'_succ, List.forIn_cons]
    refine wpAny_bind (wpAny_mono (step a b (Nat.le_refl _) (by omega) h0) (fun r s' hr => ?_) fun _ _ x => x)
    obtain ⟨hs, b', rfl, hb'⟩ := hr
    rw [hs]
    refine range_loop I n (a + 1) b' hb' (fun i b h1 h2 hI => step i b (by omega) (by omega) hI) fun b hb => hQ b ?_
    have e : a + 1 + n = a + (n + 1) := by omega
    rw [e] at hb
    exact hb
theorem letGoes {M : Model} {keep : List Value} {Q : Unit → Shared → Prop} : ∀ (taken : List (Value × Option Value)), (∀ x ∈ taken, x.2 = none) → Q () s → wpAny M A (Builtin.Bytes.joinLetGo taken keep) Q E s
  | [], _, h => wpAny_pure h
  | (x, v) :: r, hn, h => by
    obtain rfl : v = none := hn _ (.head _)
    show wpAny M A (do letGo [x] _; Builtin.Bytes.joinLetGo r keep) Q E s
    exact wpAny_bind (wpAny_letGo (letGoes r (fun y hy => hn y (.tail _ hy)) h))
/-- b''.join of a list of bytes -/
theorem join_ok {l : Addr} {n : Nat} {t : Tok} {bs : List (Array UInt8)} {vs : List Value} {Q : Value → Shared → Prop} (hl : s.heap.get? l = some { cls := .type "list", data := .seq vs.toArray n }) (hv : vs.length = bs.length) (hb : ∀ (i : Nat) (b : Array UInt8), bs[i]? = some b → ∃ t, vs[i]? = some (Value.bytes b t)) (h2 : 2 ≤ bs.length)
    (hsz : (bs.map (·.size)).sum ≤ 100000) (h : ∀ t' tk, Q (.bytes (bs.map (·.toList)).flatten.toArray t') { s with toks := tk }) :
    wpAny (model prog w) A (call (.builtin "bytes.join") [.bytes #[] t, .ref l]) Q E s := by
  refine wpAny_call_entry slot_join (typeIs_bytes _ _ _) entry_join ?_ (args_join _ _)
  unfold Builtin.«bytes.join» Builtin.Bytes.joinM
  refine wpAny_bind (wpAny_pure ?_)
  show wpAny _ _ (Builtin.Bytes.joinItems (.ref l) >>= fun seq => _) _ _ _
  refine wpAny_bind ?_
  unfold Builtin.Bytes.joinItems
  refine wpAny_bind (wpAny_typeOf (T := "list") ⟨_, hl, rfl⟩ ?_)
  refine wpAny_pure ?_
  refine wpAny_bind (wpAny_seqItems hl rfl ?_)
  dsimp only
  rw [if_pos (by rfl)]
  obtain ⟨x₀, y₀, r₀, rfl⟩ : ∃ x y r, vs = x :: y :: r := by
    match vs, hv with
    | [], e => simp at e; omega
    | [_], e => simp at e; omega
    | x :: y :: r, _ => exact ⟨x, y, r, rfl⟩
  show wpAny _ _ (forIn [:(x₀ :: y₀ :: r₀).toArray.size] (#[], []) _ >>= _) _ _ _
  rw [Std.Legacy.Range.forIn_eq_forIn_range']
  refine wpAny_bind (range_loop (fun i r => r.1 = (bs.take i).toArray ∧ ∀ x ∈ r.2, ∃ b t, x = (Value.bytes b t, none)) _ _ _ ⟨by simp, by simp⟩ ?_ ?_)
  · rintro i ⟨parts, taken⟩ h1 h3 ⟨r1, r2⟩
    have hi : i < bs.length := by
      rw [← hv]
      simp at h3 ⊢
      omega
    obtain ⟨ti, ei⟩ := hb i bs[i] (List.getElem?_eq_getElem hi)
    refine wpAny_bind (wpAny_seqItems hl rfl ?_)
    have hnh : (taken.any fun x => x.fst.onHeap) = false := by
      rw [List.any_eq_false]
      intro x hx
      obtain ⟨b, t, rfl⟩ := r2 x hx
      exact Bool.false_ne_true
    have eget : (x₀ :: y₀ :: r₀).toArray.getD i Value.none = Value.bytes bs[i] ti := by
      have hlt : i < (x₀ :: y₀ :: r₀).length := by rw [hv]; exact hi
      rw [List.getElem?_eq_getElem hlt] at ei
      simp only [Array.getD, List.size_toArray, hlt, dif_pos]
      exact Option.some.inj ei
    dsimp only
    rw [hnh, Bool.or_false, if_neg (by decide), eget]
    refine wpAny_bind (wpAny_holding (wpAny_of_eq take_eq ?_))
    refine wpAny_bind (wpAny_seqItems hl rfl ?_)
    dsimp only
    rw [if_neg (by simp)]
    refine wpAny_pure ⟨rfl, _, rfl, ?_, ?_⟩
    · show parts.push bs[i] = _
      rw [show parts = _ from r1, List.take_add_one, List.getElem?_eq_getElem hi]
      simp
    · intro x hx
      rcases List.mem_append.mp hx with hx | hx
      · exact r2 x hx
      · exact ⟨_, _, List.mem_singleton.mp hx⟩
  · rintro ⟨parts, taken⟩ ⟨r1, r2⟩
    have hp : parts = bs.toArray := by
      rw [show parts = _ from r1]
      have : bs.take (0 + (0 + ((x₀ :: y₀ :: r₀).toArray.size - 0 + 1 - 1) / 1)) = bs := List.take_of_length_le (by rw [← hv]; simp)
      first | rw [this] | (congr 1; exact List.take_of_length_le (by rw [← hv]; simp))
    dsimp only
    refine wpAny_bind (wpAny_of_eq (a := #[]) rfl ?_)
    have hl0 : Builtin.Bytes.tooLong (Array.foldl (fun x1 x2 => x1 + x2.size) ((#[] : Array UInt8).size * (parts.size - 1)) parts) = false := by
      refine KBy.tooLong_not ?_
      rw [hp, ← Array.foldl_toList, List.toList_toArray, fold_sizes]
      simp only [List.size_toArray, List.length_nil, Nat.zero_mul, Nat.zero_add]
      omega
    rw [hl0, if_neg Bool.false_ne_true, hp, List.toList_toArray, joined_eq]
    show wpAny _ _ (mkBytes _ >>= _) _ _ _
    refine wpAny_bind (wpAny_mkBytes ?_ (by rw [flat_size, sizeLine_eq]; omega))
    refine wpAny_bind (wpAny_holding (wpAny_point ?_))
    refine wpAny_bind (letGoes taken (fun x hx => by obtain ⟨b, t, rfl⟩ := r2 x hx; rfl) ?_)
    exact wpAny_pure ⟨_, rfl, h _ _⟩
/-- upper of bytes -/
theorem upper_ok {b : Array UInt8} {t : Tok} {Q : Value → Shared → Prop} (hb : b.size ≤ 100000) (h : ∀ t' tk, Q (.bytes (b.toList.map Builtin.Bytes.toUpper).toArray t') { s with toks := tk }) :
    wpAny (model prog w) A (call (.builtin "bytes.upper") [.bytes b t]) Q E s := by
  refine wpAny_call_entry slot_upper (typeIs_bytes _ _ _) entry_upper ?_ (args_upper _)
  unfold Builtin.«bytes.upper» Builtin.Bytes.mappedM
  refine wpAny_bind (wpAny_pure ?_)
  refine wpAny_bind (wpAny_of_eq (a := b) rfl ?_)
  show wpAny _ _ (mkBytes _ >>= _) _ _ _
  refine wpAny_bind (wpAny_mkBytes ?_ (by rw [sizeLine_eq]; simp; omega))
  exact wpAny_pure ⟨_, rfl, h _ _⟩
end
end Mine
end

section
/- part Md -/
open PySem PySem.W PyProof.Rows PySem.Calls
set_option maxRecDepth 100000
set_option maxHeartbeats 8000000
namespace Mine
section
variable {M : Model} {A : Around} {E : Value → Shared → Prop} {s : Shared} {env : Env}
theorem methA {o : Expr} {name : Str} {apos pos : Pos} {args : List Expr} {Q : Value → Shared → Prop}
    (h : wpAny M A (eval o env) (fun ov s₁ => wpAny M A (calleeOf true o env ov name) (fun fx s₂ => wpAny M A (callWith pos fx.1 fx.2 (backTo pos (starEach args env)) []) Q E s₂) E s₁) E s)
    (hp : (apos.endLine == pos.line) = true) (hb : ∀ w, attributeBase o name env w = w := by intro _; rfl) (hf : methodCallForm (args.length + 0) (backTo pos (starEach args env)) [] = true := by rfl) :
    wpAny M A (eval (.Call (.Attribute o name apos) args [] pos) env) Q E s := by
  rw [arm_eval_Call, hb]
  refine wpAny_bind (wpAny_mono h (fun ov s₁ h₁ => wpAny_bind (wpAny_standAt ?_)) fun _ _ x => x)
  show wpAny M A (methodCall o name apos pos env ov (args.length + 0) (backTo pos (starEach args env)) []) Q E s₁
  unfold methodCall
  rw [hf]
  refine wpAny_bind (wpAny_holding (wpAny_mono h₁ (fun fx s₂ h₂ => ?_) fun _ _ x => x))
  obtain ⟨f, first⟩ := fx
  have e : methodCallPos true o env apos pos = pure pos := by unfold methodCallPos; rw [hp]; rfl
  show wpAny M A (methodCallPos true o env apos pos >>= fun cp => callWith cp f first (backTo pos (starEach args env)) []) Q E s₂
  rw [e]
  exact wpAny_bind (wpAny_pure h₂)
end
/-- the numerals one behind the other, in great letters -/
def UpAll (b : Int) (ns : List Int) : Prop := (((ns.map (numB b)).map (·.toList)).flatten.map Builtin.Bytes.toUpper) = allUp b ns
section
variable {w : World} {d u : Nat} {fr : Option (List Env)} {gu : Option (List Code)} {s : Shared} {env : Env} {g : Heap} {b : Int} {ns : List Int} {q : LP} {o37 : Obj} {ps : Array Value} {m : Str → Option Value} {p : Program} {loose : List Str} {mean : ExcName → Option Value} {mg mb : Str → Option Value}
/-- statement 12 -/
theorem retA {Q : Flow → Shared → Prop} {p0 p1 p2 p3 p4 p5 p6 p7 p8 p9 p10 p11 : Pos}
    (V : LawEnv env) (X : (hd.heap_1 w.params).In g) (T : Top p loose mean mg mb g) (I : LI g b ns q o37 ps m s.heap) (h2 : 2 ≤ ns.length) (h64 : ns.length < 64) (hroom : d + 3 < recursionLimit) (hu : u + 300 < cLine) (hn0 : ∀ n ∈ ns, 0 ≤ n) (hsh : Short b ns) (hup : UpAll b ns)
    (hp1 : (p1.endLine == p3.line) = true) (hp2 : (p4.endLine == p5.line) = true)
    (h : ∀ h' tk, (∀ b o, s.heap.get? b = some o → h'.get? b = some o) → Q (.ret (.bool true)) { s with heap := h', toks := tk }) :
    wpAny (model PR w) ⟨none, d, fr, gu, u⟩ (exec (.Return (some (.Compare (.Call (.Name "_law_read" p8) [.Call (.Attribute (.Call (.Attribute (.Constant (.bytes []) 0 p0) "join" p1) [.Name "numerals" p2] [] p3) "upper" p4) [] [] p5, .Name "bias" p6] [] p7) [.Eq] [.Name "numbers" p9] p10)) p11) env) Q (fun _ _ => False) s := by
  obtain ⟨o61, fd61, e61, d61⟩ : ∃ o fd, g.get? 61 = some o ∧ o.data = .func fd := ⟨_, _, X 61 _ rfl, rfl⟩
  have hns : s.heap.Ns env.locals m := V.hl ▸ I.F.ns
  have hsum : ∀ l : List Int, (∀ x ∈ l, (numB b x).size < 1000) → ((l.map (numB b)).map (·.size)).sum ≤ 1000 * l.length := by
    intro l
    induction l with
    | nil => intro _; simp
    | cons x l ih =>
      intro hx
      have h1 := hx x (.head _)
      have h2 := ih fun y hy => hx y (.tail _ hy)
      simp only [List.map_cons, List.sum_cons, List.length_cons]
      omega
  have hsz := hsum ns hsh
  refine wpAny_Return_some (wpAny_Compare1 (Call_ (nmK X T I.F.keep (by rfl) (cwFun1A d61 (args_cons ?_)) V.hg V.hk V.kRead)))
  refine methA (methA (Constant_bytes ?_) hp1) hp2
  show wpAny _ _ (getMethod _ _ _) _ _ _
  refine KBd.method_of _ (typeIs_bytes _ _ _) slot_join type_join KBd.noRef ?_
  refine callWith_method1 (args_cons (nmL (s := { s with toks := s.toks + 1 }) hns I.mn (args_nil ?_) V.hk V.kNumerals))
  obtain ⟨nn, hnn⟩ := I.S.hn
  refine join_ok (bs := ns.map (numB b)) hnn (by rw [List.length_map]; exact I.S.ny.1) (fun i b' e => ?_) (by simpa using h2) (by omega) fun t₁ tk₁ => ?_
  · rw [List.getElem?_map] at e
    cases q9 : ns[i]? with
    | none => rw [q9] at e; cases e
    | some n9 =>
      rw [q9] at e
      cases e
      exact I.S.ny.2 i n9 q9
  show wpAny _ _ (getMethod _ _ _) _ _ _
  refine KBd.method_of _ (typeIs_bytes _ _ _) slot_upper type_upper KBd.noRef ?_
  refine callWith_method0 (upper_ok (by rw [flat_size]; omega) fun t₂ tk₂ => ?_)
  rw [List.toList_toArray, hup]
  refine args_cons (nmC (s := { s with toks := tk₂ }) V.cBias I.S.cb (args_nil ⟨I.F.keep _ _ e61, wpAny_call ?_⟩) V.hk V.kBias)
  refine read_code (s := { s with toks := tk₂ }) (Ns := ns) (X.keeps I.F.keep) (T.keeps I.F.keep) (by omega) hn0 ?_ (by omega) rfl fun h₃ tk₃ a₃ vs₃ n₃ k₃ _ ha₃ hi₃ => ?_
  · rw [← hup]
    have := flat_size (ns.map (numB b))
    simp only [List.size_toArray, List.length_map] at this ⊢
    omega
  have I₃ := I.keeps k₃
  refine nmC (s := { s with heap := h₃, toks := tk₃ }) V.cNumbers I₃.S.cn ?_ V.hk V.kNumbers
  refine eq_intsK (s := { s with heap := h₃, toks := tk₃ }) (ns := ns) (ms := ns) ⟨_, ha₃, rfl, _, rfl⟩ hi₃ I₃.S.hl.is I.S.iv (by show u + 64 < cLine; omega) ?_
  rw [decide_eq_true rfl]
  exact h h₃ tk₃ k₃
end
end Mine
end

section
/- part Pl -/
open PySem PySem.W PyProof.Rows PySem.Calls
set_option maxRecDepth 100000
set_option maxHeartbeats 4000000
namespace Mine
theorem digs_range {b : Int} : ∀ (f : Nat) (j N : Int), 0 ≤ N → ∀ d ∈ digs b f j N, 0 ≤ d ∧ d < 36
  | 0, j, N, h0, d, hd => by simp [digs] at hd
  | f + 1, j, N, h0, d, hd => by
    have h1 := tT_ge j b
    have h2 := tT_le j b
    unfold digs at hd
    split at hd
    · rename_i hlt
      obtain rfl := List.mem_singleton.mp hd
      omega
    · rename_i hge
      rcases List.mem_cons.mp hd with rfl | hd
      · have := digit_lt hge
        omega
      · exact digs_range f (j + 1) _ (next_lt hge h0).1 d hd
theorem digs_len {b : Int} : ∀ (k f : Nat) (j N : Int), 0 ≤ N → N < 10 ^ k → (digs b f j N).length ≤ k + 1
  | k, 0, j, N, h0, h => by simp [digs]
  | 0, f + 1, j, N, h0, h => by
    have h1 := tT_ge j b
    unfold digs
    rw [if_pos (by simp at h; omega)]
    simp
  | k + 1, f + 1, j, N, h0, h => by
    unfold digs
    split
    · simp
    · rename_i hge
      have h1 := tT_ge j b
      have h2 := tT_le j b
      have hn := (next_lt hge h0).1
      have hk : (N - tT j b) / (36 - tT j b) < 10 ^ k := by
        generalize tT j b = t at *
        apply Int.ediv_lt_of_lt_mul (by omega)
        have hp : (0 : Int) ≤ 10 ^ k := Int.pow_nonneg (by decide)
        have e : (10 : Int) ^ (k + 1) = 10 ^ k * 10 := Int.pow_succ ..
        have h3 : (10 : Int) ^ k * 10 ≤ 10 ^ k * (36 - t) := Int.mul_le_mul_of_nonneg_left (by omega) hp
        omega
      have := digs_len (b := b) k f (j + 1) _ hn hk
      simp only [List.length_cons]
      omega
theorem num_short {b N : Int} (h0 : 0 ≤ N) (h : N < 1000000000) : (digs b (N.toNat + 1) 0 N).length ≤ 10 := digs_len 9 _ 0 N h0 (by simpa using h)
theorem sgnB_vals : ∀ k : Nat, k < 36 → dv (sgnB (k : Int)) = k ∧ Builtin.Bytes.toUpper (sgnB (k : Int)) = upB (k : Int) := by decide +kernel
theorem dv_sgn {d : Int} (h0 : 0 ≤ d) (h1 : d < 36) : dv (sgnB d) = d := by
  have := (sgnB_vals d.toNat (by omega)).1
  rw [Int.toNat_of_nonneg h0] at this
  exact this
theorem up_sgn {d : Int} (h0 : 0 ≤ d) (h1 : d < 36) : Builtin.Bytes.toUpper (sgnB d) = upB d := by
  have := (sgnB_vals d.toNat (by omega)).2
  rw [Int.toNat_of_nonneg h0] at this
  exact this
theorem sgn_inj {d e : Int} (h0 : 0 ≤ d) (h1 : d < 36) (g0 : 0 ≤ e) (g1 : e < 36) (h : sgnB d = sgnB e) : d = e := by
  rw [← dv_sgn h0 h1, ← dv_sgn g0 g1, h]
/-- what the comparison of two lists of signs of equal length finds -/
def Cmp (X Y : List UInt8) (x y : Int) : Prop :=
  (X.length < Y.length → x < y) ∧ (Y.length < X.length → y < x) ∧
  (X.length = Y.length → match diff1 (X.reverse.zip Y.reverse) with
    | none => x = y
    | some p => (dv p.1 < dv p.2 ∧ x < y) ∨ (dv p.2 < dv p.1 ∧ y < x))
theorem zip_rev_cons {X Y : List UInt8} (h : X.length = Y.length) (a c : UInt8) : (a :: X).reverse.zip (c :: Y).reverse = X.reverse.zip Y.reverse ++ [(a, c)] := by
  rw [List.reverse_cons, List.reverse_cons, List.zip_append (by simp [h])]
  rfl
theorem digs_pos {b : Int} {f : Nat} {j N : Int} (_ : 0 ≤ N) (hf : N.toNat + 1 ≤ f) : 0 < (digs b f j N).length := by
  cases f with
  | zero => omega
  | succ f =>
    unfold digs
    split <;> simp
theorem cmp_main {b : Int} : ∀ (f : Nat) (j x y : Int), 0 ≤ x → 0 ≤ y → x.toNat + 1 ≤ f → y.toNat + 1 ≤ f → Cmp ((digs b f j x).map sgnB) ((digs b f j y).map sgnB) x y
  | 0, j, x, y, _, _, h, _ => by omega
  | f + 1, j, x, y, hx, hy, fx, fy => by
    have h1 := tT_ge j b
    have h2 := tT_le j b
    unfold digs
    by_cases cx : x < tT j b
    · by_cases cy : y < tT j b
      · rw [if_pos cx, if_pos cy]
        refine ⟨fun h => by simp at h, fun h => by simp at h, fun _ => ?_⟩
        show match diff1 [(sgnB x, sgnB y)] with | none => x = y | some p => _
        unfold diff1
        by_cases e : sgnB x = sgnB y
        · have hxy : x = y := sgn_inj hx (by omega) hy (by omega) e
          simp [List.find?, hxy]
        · have hne : (sgnB x != sgnB y) = true := by simpa using e
          simp only [List.find?, hne]
          rw [dv_sgn hx (by omega), dv_sgn hy (by omega)]
          have : x ≠ y := fun q => e (by rw [q])
          omega
      · rw [if_pos cx, if_neg cy]
        have hp := digs_pos (b := b) (j := j + 1) (next_lt cy hy).1 (f := f) (by have := next_lt cy hy; omega)
        refine ⟨fun _ => by omega, fun h => ?_, fun h => ?_⟩
        · simp at h
        · simp only [List.map_cons, List.map_nil, List.length_cons, List.length_map, List.length_nil] at h
          omega
    · by_cases cy : y < tT j b
      · rw [if_neg cx, if_pos cy]
        have hp := digs_pos (b := b) (j := j + 1) (next_lt cx hx).1 (f := f) (by have := next_lt cx hx; omega)
        refine ⟨fun h => ?_, fun h => by omega, fun h => ?_⟩
        · simp at h
        · simp only [List.map_cons, List.map_nil, List.length_cons, List.length_map, List.length_nil] at h
          omega
      · rw [if_neg cx, if_neg cy]
        have nx := next_lt cx hx
        have ny := next_lt cy hy
        obtain ⟨c1, c2, c3⟩ := cmp_main (b := b) f (j + 1) ((x - tT j b) / (36 - tT j b)) ((y - tT j b) / (36 - tT j b)) nx.1 ny.1 (by omega) (by omega)
        have dx := digit_lt cx
        have dy := digit_lt cy
        have ex := Int.mul_ediv_add_emod (x - tT j b) (36 - tT j b)
        have ey := Int.mul_ediv_add_emod (y - tT j b) (36 - tT j b)
        have mono : (x - tT j b) / (36 - tT j b) < (y - tT j b) / (36 - tT j b) → x < y := fun q => by
          have h3 := Int.lt_of_not_ge (a := y) (b := x) fun hle => by
            have := Int.ediv_le_ediv (c := 36 - tT j b) (by omega) (show y - tT j b ≤ x - tT j b by omega)
            omega
          exact h3
        have mono' : (y - tT j b) / (36 - tT j b) < (x - tT j b) / (36 - tT j b) → y < x := fun q => by
          have h3 := Int.lt_of_not_ge (a := x) (b := y) fun hle => by
            have := Int.ediv_le_ediv (c := 36 - tT j b) (by omega) (show x - tT j b ≤ y - tT j b by omega)
            omega
          exact h3
        generalize hX : (digs b f (j + 1) ((x - tT j b) / (36 - tT j b))).map sgnB = X at *
        generalize hY : (digs b f (j + 1) ((y - tT j b) / (36 - tT j b))).map sgnB = Y at *
        simp only [List.map_cons, hX, hY]
        refine ⟨fun h => mono (c1 (by simpa using h)), fun h => mono' (c2 (by simpa using h)), fun h => ?_⟩
        have hl : X.length = Y.length := by simpa using h
        have c3 := c3 hl
        rw [zip_rev_cons hl, diff1_snoc]
        cases q : diff1 (X.reverse.zip Y.reverse) with
        | some p =>
          rw [q] at c3
          simp only [Option.some_or]
          rcases c3 with c | c
          · exact .inl ⟨c.1, mono c.2⟩
          · exact .inr ⟨c.1, mono' c.2⟩
        | none =>
          rw [q] at c3
          simp only [Option.none_or]
          have eq : (x - tT j b) / (36 - tT j b) = (y - tT j b) / (36 - tT j b) := c3
          rw [eq] at ex
          generalize hq : (36 - tT j b) * ((y - tT j b) / (36 - tT j b)) = Z at *
          by_cases e : sgnB (tT j b + (x - tT j b) % (36 - tT j b)) = sgnB (tT j b + (y - tT j b) % (36 - tT j b))
          · have hxy := sgn_inj (by omega) dx.2 (by omega) dy.2 e
            have : x = y := by omega
            simp [this]
          · have hne : (sgnB (tT j b + (x - tT j b) % (36 - tT j b)) != sgnB (tT j b + (y - tT j b) % (36 - tT j b))) = true := by simpa using e
            rw [if_pos hne]
            show (dv _ < dv _ ∧ _) ∨ _
            rw [dv_sgn (by omega) dx.2, dv_sgn (by omega) dy.2]
            have hd : tT j b + (x - tT j b) % (36 - tT j b) ≠ tT j b + (y - tT j b) % (36 - tT j b) := fun q => e (by rw [q])
            omega
theorem cmpv_of {X Y : List UInt8} {x y : Int} (h : Cmp X Y x y) : (cmpv X.toArray Y.toArray < 0 ↔ x < y) ∧ (0 < cmpv X.toArray Y.toArray ↔ y < x) := by
  obtain ⟨c1, c2, c3⟩ := h
  unfold cmpv
  simp only [List.size_toArray]
  by_cases e : X.length = Y.length
  · rw [if_pos (by rw [e])]
    have c3 := c3 e
    have er : ∀ Z : List UInt8, Z.toArray.reverse.toList = Z.reverse := fun Z => by simp
    rw [er, er]
    cases q : diff1 (X.reverse.zip Y.reverse) with
    | none =>
      rw [q] at c3
      have c3 : x = y := c3
      show ((0 : Int) < 0 ↔ _) ∧ ((0 : Int) < 0 ↔ _)
      omega
    | some p =>
      rw [q] at c3
      have c3 : (dv p.1 < dv p.2 ∧ x < y) ∨ (dv p.2 < dv p.1 ∧ y < x) := c3
      show (dv p.1 - dv p.2 < 0 ↔ _) ∧ (0 < dv p.1 - dv p.2 ↔ _)
      omega
  · rw [if_neg (by omega)]
    omega
theorem agree_all {b : Int} {ns : List Int} (hn : ∀ n ∈ ns, 0 ≤ n) : Agree b ns := by
  intro x hx y hy
  have h0 := hn x hx
  have h1 := hn y hy
  unfold numB
  rw [digs_fuel (f' := x.toNat + y.toNat + 1) h0 (Nat.le_refl _) (by omega), digs_fuel (N := y) (f' := x.toNat + y.toNat + 1) h1 (Nat.le_refl _) (by omega)]
  exact cmpv_of (cmp_main _ 0 x y h0 h1 (by omega) (by omega))
theorem short_all {b : Int} {ns : List Int} (hn : ∀ n ∈ ns, 0 ≤ n) (hl : ∀ n ∈ ns, n < 1000000000) : Short b ns := by
  intro x hx
  have := num_short (b := b) (hn x hx) (hl x hx)
  unfold numB
  simp only [List.size_toArray, List.length_map]
  omega
theorem count_main {b n : Int} : ∀ (f g : Nat) (j N room worth r : Int), 0 ≤ N → N.toNat + 1 ≤ f → f + 1 ≤ g → 0 ≤ room → 1 ≤ worth → 0 ≤ r → r < worth → n = room + worth * N + r → szs b g n j room worth = j + (digs b f j N).length
  | 0, g, j, N, room, worth, r, _, h, _, _, _, _, _, _ => by omega
  | f + 1, 0, j, N, room, worth, r, _, _, h, _, _, _, _, _ => by omega
  | f + 1, g + 1, j, N, room, worth, r, h0, hf, hg, hr, hw, r0, r1, hn => by
    have h1 := tT_ge j b
    have h2 := tT_le j b
    have hwN : 0 ≤ worth * N := Int.mul_nonneg (by omega) h0
    show (if room ≤ n then szs b g n (j + 1) (room + tT j b * worth) (worth * (36 - tT j b)) else j) = _
    rw [if_pos (by omega)]
    unfold digs
    split
    · rename_i hlt
      have hb : worth * (N + 1) ≤ worth * tT j b := Int.mul_le_mul_of_nonneg_left (by omega) (by omega)
      rw [Int.mul_add, Int.mul_one] at hb
      have hc : worth * tT j b = tT j b * worth := Int.mul_comm ..
      cases g with
      | zero => show j + 1 = _; simp
      | succ g =>
        show (if room + tT j b * worth ≤ n then _ else j + 1) = _
        rw [if_neg (by omega)]
        simp
    · rename_i hge
      have nx := next_lt hge h0
      have e := Int.mul_ediv_add_emod (N - tT j b) (36 - tT j b)
      have m0 := Int.emod_nonneg (N - tT j b) (show 36 - tT j b ≠ 0 by omega)
      have m1 := Int.emod_lt_of_pos (N - tT j b) (show 0 < 36 - tT j b by omega)
      generalize tT j b = t at *
      generalize (N - t) / (36 - t) = N' at *
      generalize (N - t) % (36 - t) = m at *
      have hm : worth * m + worth ≤ worth * (36 - t) := by
        have := Int.mul_le_mul_of_nonneg_left (show m + 1 ≤ 36 - t by omega) (show 0 ≤ worth by omega)
        rw [Int.mul_add, Int.mul_one] at this
        exact this
      have hm0 : 0 ≤ worth * m := Int.mul_nonneg (by omega) m0
      have ht0 : 0 ≤ t * worth := Int.mul_nonneg (by omega) (by omega)
      have hw2 : 1 * 1 ≤ worth * (36 - t) := Int.mul_le_mul hw (by omega) (by decide) (by omega)
      have en : n = room + t * worth + worth * (36 - t) * N' + (worth * m + r) := by
        have eN : N = t + ((36 - t) * N' + m) := by omega
        have e3 : worth * N = t * worth + (worth * (36 - t) * N' + worth * m) := by
          conv => lhs; rw [eN]
          rw [Int.mul_add, Int.mul_add, Int.mul_comm worth t, Int.mul_assoc]
        omega
      have := count_main (b := b) (n := n) f g (j + 1) N' (room + t * worth) (worth * (36 - t)) (worth * m + r) nx.1 (by omega) (by omega) (by omega) (by omega) (by omega) (by omega) en
      rw [this]
      simp only [List.length_cons]
      omega
theorem counts_all {b : Int} {ns : List Int} (hn : ∀ n ∈ ns, 0 ≤ n) : Counts b ns := by
  intro n h
  have := count_main (b := b) (n := n) (n.toNat + 1) (n.toNat + 2) 0 n 0 1 0 (hn n h) (Nat.le_refl _) (Nat.le_refl _) (by decide) (by decide) (by decide) (by decide) (by omega)
  rw [this]
  unfold numB
  simp
theorem up_all {b : Int} : ∀ {ns : List Int}, (∀ n ∈ ns, 0 ≤ n) → UpAll b ns
  | [], _ => rfl
  | n :: ns, hn => by
    have ih := up_all (b := b) (ns := ns) fun x hx => hn x (.tail _ hx)
    unfold UpAll at ih ⊢
    simp only [List.map_cons, List.flatten_cons, List.map_append, allUp]
    rw [ih]
    congr 1
    unfold numB
    rw [List.toList_toArray, List.map_map]
    refine List.map_congr_left fun d hd => ?_
    have := digs_range _ _ _ (hn n (.head _)) d hd
    exact up_sgn this.1 this.2
end Mine
end

section
/- part Me -/
open PySem PySem.W PyProof.Rows PySem.Calls
set_option maxRecDepth 100000
set_option maxHeartbeats 8000000
namespace Mine
abbrev cellO : Obj := { cls := .type "cell", data := .cell none }
theorem four_cells {h h₁ : Heap} {o : Obj} (hz : h.objs.size = 68) (hs : Heap.SameBut 68 ((((h.push o).push cellO).push cellO).push cellO |>.push cellO) h₁) :
    h₁.objs.size = 73 ∧ h₁.IsCell 69 none ∧ h₁.IsCell 70 none ∧ h₁.IsCell 71 none ∧ h₁.IsCell 72 none ∧ ∀ b o', h.get? b = some o' → h₁.get? b = some o' := by
  have z1 : (h.push o).objs.size = 69 := by rw [Heap.size_push, hz]
  have z2 : ((h.push o).push cellO).objs.size = 70 := by rw [Heap.size_push, z1]
  have z3 : (((h.push o).push cellO).push cellO).objs.size = 71 := by rw [Heap.size_push, z2]
  have z4 : ((((h.push o).push cellO).push cellO).push cellO).objs.size = 72 := by rw [Heap.size_push, z3]
  have g1 : ((h.push o).push cellO).get? 69 = some cellO := by have := Heap.get?_push_size (h.push o) (o := cellO) rfl; rwa [z1] at this
  have g2 : (((h.push o).push cellO).push cellO).get? 70 = some cellO := by have := Heap.get?_push_size ((h.push o).push cellO) (o := cellO) rfl; rwa [z2] at this
  have g3 : ((((h.push o).push cellO).push cellO).push cellO).get? 71 = some cellO := by have := Heap.get?_push_size (((h.push o).push cellO).push cellO) (o := cellO) rfl; rwa [z3] at this
  have g4 : (((((h.push o).push cellO).push cellO).push cellO).push cellO).get? 72 = some cellO := by have := Heap.get?_push_size ((((h.push o).push cellO).push cellO).push cellO) (o := cellO) rfl; rwa [z4] at this
  have p := fun (x : Heap) (b : Addr) (o' : Obj) (e : x.get? b = some o') => Heap.get?_push_of_some (h := x) cellO e
  refine ⟨?_, ⟨_, hs.extBut _ _ (by decide) (p _ _ _ (p _ _ _ (p _ _ _ g1))), rfl⟩, ⟨_, hs.extBut _ _ (by decide) (p _ _ _ (p _ _ _ g2)), rfl⟩, ⟨_, hs.extBut _ _ (by decide) (p _ _ _ g3), rfl⟩, ⟨_, hs.extBut _ _ (by decide) g4, rfl⟩, fun b o' e => ?_⟩
  · rw [hs.1, Heap.size_push, z4]
  · exact hs.extBut b o' (Nat.ne_of_lt (hz ▸ ltN e)) (p _ _ _ (p _ _ _ (p _ _ _ (p _ _ _ (Heap.get?_push_of_some _ e)))))
theorem intsTake : ∀ (k : Nat) {vs : List Value} {ns : List Int}, IntsAre vs ns → IntsAre (vs.take k) (ns.take k)
  | 0, _, _, _ => by simp only [List.take_zero]; exact .nil
  | _ + 1, _, _, .nil => .nil
  | k + 1, _, _, .cons n t r => .cons n t (intsTake k r)
/-- the numbers of the law -/
def lawNs (ns : List Int) : List Int := (ns.take 6).map (· % 1000000000) ++ [0, 25, 26, 35, 35, 36, 1000]
theorem lawNs_ok (ns : List Int) : (∀ n ∈ lawNs ns, 0 ≤ n) ∧ (∀ n ∈ lawNs ns, n < 1000000000) ∧ 7 ≤ (lawNs ns).length ∧ (lawNs ns).length ≤ 13 := by
  have key : ∀ n ∈ lawNs ns, 0 ≤ n ∧ n < 1000000000 := fun n hn => by
    rcases List.mem_append.mp hn with h | h
    · obtain ⟨x, _, rfl⟩ := List.mem_map.mp h
      omega
    · have : ∀ n ∈ ([0, 25, 26, 35, 35, 36, 1000] : List Int), 0 ≤ n ∧ n < 1000000000 := by decide
      exact this n h
  refine ⟨fun n hn => (key n hn).1, fun n hn => (key n hn).2, ?_, ?_⟩ <;> (simp [lawNs]; try omega)
/-- what the law leaves -/
def LawPost (s : Shared) (r : Result) (s' : Shared) : Prop := r = .ok (.ret (.bool true)) ∧ OldK s.heap s'.heap ∧ s'.gens = s.gens ∧ s'.os = s.os
theorem law_ok {w : World} {s : Shared} {p : Program} {loose : List Str} {mean : ExcName → Option Value} {mg mb : Str → Option Value} {vs : List Value} {ns : List Int}
    (X : (hd.heap_1 w.params).In s.heap) (T : Top p loose mean mg mb s.heap) (t37 : s.heap.get? 37 = some (tabObj #[])) (t63 : s.heap.get? 63 = some (tabObj #[])) (hsz : s.heap.objs.size = 68) (hl : s.heap.IsList 67 vs.toArray) (hi : IntsAre vs ns) (hvl : vs.length ≤ 63)
    (cls : ∀ env h₂ tk, (∀ b o, s.heap.get? b = some o → h₂.get? b = some o) → h₂.objs.size = 86 → wpAny (model PR w) (callerA.deeper env) (call (.ref 42) [.ref 47]) (Made { s with heap := h₂, toks := tk }) (fun _ _ => False) { s with heap := h₂, toks := tk }) :
    codeC (model PR w) callerA (.call (.ref 66) ⟨[.ref 67], []⟩) (LawPost s) s := by
  have C37 : CodeHd s.heap 41 37 := codeHd_of_K X (by rfl)
  have C63 : CodeHd s.heap 65 63 := codeHd_of_K X (by rfl)
  have hT : TabsAt [(41, 37), (65, 63)] s.heap := by
    intro q hq
    rcases List.mem_cons.mp hq with rfl | hq
    · exact ⟨C37, t37⟩
    · cases List.mem_singleton.mp hq
      exact ⟨C63, t63⟩
  have Xg : (hd.heap_1 w.params).In (ghostOf s.heap [(41, 37), (65, 63)]) := ghost_K hT X (by rfl)
  have Tg := ghost_top hT T
  have g63 : (ghostOf s.heap [(41, 37), (65, 63)]).get? 63 = none := hideAll_none _ (by decide)
  have gz : (ghostOf s.heap [(41, 37), (65, 63)]).objs.size = 68 := by rw [← hsz]; exact hideAll_size _ _
  have gk : ∀ b o, (ghostOf s.heap [(41, 37), (65, 63)]).get? b = some o → b ≠ 37 ∧ b ≠ 63 ∧ s.heap.get? b = some o := fun b o e => by
    refine ⟨fun q => ?_, fun q => ?_, of_hideAll _ e⟩
    · rw [q, show (ghostOf s.heap [(41, 37), (65, 63)]).get? 37 = none from hideAll_none _ (by decide)] at e; cases e
    · rw [q, g63] at e; cases e
  have gk2 : ∀ b o, b ≠ 37 → b ≠ 63 → s.heap.get? b = some o → (ghostOf s.heap [(41, 37), (65, 63)]).get? b = some o := fun b o b1 b2 e => hideAll_get _ e (by
    intro hq
    rcases List.mem_cons.mp hq with h | hq
    · exact b1 h
    · exact b2 (List.mem_singleton.mp hq))
  generalize ghostOf s.heap [(41, 37), (65, 63)] = g at *
  refine callC_cells (name := "law") (x := "script") (v := .ref 67) (by decide) (X 66 _ rfl) rfl T.nolimit (codeRec_of X (by rfl)) (by with_unfolding_all rfl) (by rfl) (fun h₁ hn₁ hs₁ => ?_)
  rw [hsz] at hn₁ hs₁ ⊢
  obtain ⟨z₁, c69, c70, c71, c72, k₁⟩ := four_cells hsz hs₁
  refine execsC (wpC_of (cutA (l := 67) (vs := vs) rfl rfl rfl hn₁ (if_pos rfl) (hl.at fun o e => k₁ _ _ e) hvl (by decide) fun h₂ tk₂ hn₂ hl₂ z₂ k₂ => ?_))
  rw [z₁] at hn₂ hl₂ z₂
  have hn₂ : h₂.Ns 68 _ := hn₂
  have c72₂ : h₂.IsCell 72 none := let ⟨o, e, d⟩ := c72; ⟨o, k₂ _ _ (by decide) e, d⟩
  refine execsC (wpC_of (numbersA (c := 72) (l := 74) (vs := vs.take 6) (ns := ns.take 6) rfl rfl rfl rfl rfl hn₂ (if_pos rfl) hl₂ (intsTake 6 hi) (by simp; omega) c72₂ fun h₃ tk₃ ys D hD hy z₃ c72₃ hDge k₃ => ?_))
  have hn₃ := hn₂.at' fun o e => k₃ 68 o (by decide) e
  have F₃ : Fr g 68 h₃ _ := ⟨hn₃, fun b o e => k₃ b o (Nat.ne_of_lt (Nat.lt_of_lt_of_le (ltN e) (by rw [gz]; decide))) (k₂ b o (Nat.ne_of_lt (Nat.lt_of_lt_of_le (ltN e) (Nat.le_of_eq gz))) (k₁ _ _ (gk b o e).2.2)), Nat.le_of_eq gz⟩
  have k23 : ∀ b o, b ≠ 68 → b ≠ 72 → h₁.get? b = some o → h₃.get? b = some o := fun b o b1 b2 e => k₃ b o b2 (k₂ b o b1 e)
  have kS : ∀ b o, s.heap.get? b = some o → h₃.get? b = some o := fun b o e => by
    have := ltN e
    rw [hsz] at this
    exact k23 b o (Nat.ne_of_lt this) (Nat.ne_of_lt (Nat.lt_trans this (by decide))) (k₁ _ _ e)
  have c69₃ : h₃.IsCell 69 none := let ⟨o, e, d⟩ := c69; ⟨o, k23 _ _ (by decide) (by decide) e, d⟩
  have c70₃ : h₃.IsCell 70 none := let ⟨o, e, d⟩ := c70; ⟨o, k23 _ _ (by decide) (by decide) e, d⟩
  have c71₃ : h₃.IsCell 71 none := let ⟨o, e, d⟩ := c71; ⟨o, k23 _ _ (by decide) (by decide) e, d⟩
  have z₃' : h₃.objs.size = 82 := by rw [z₃]; show h₂.objs.size + 7 = 82; rw [z₂]
  have hl₃ : h₃.IsList 74 (vs.take 6).toArray := hl₂.at fun o e => k₃ 74 o (by decide) e
  refine execsC (wpC_of (biasA (g := g) (cb := 69) (ck := 70) (l := 74) (vs := vs.take 6) (ns := ns.take 6) rfl F₃ Xg Tg rfl rfl rfl rfl rfl rfl rfl rfl rfl (if_pos rfl) hl₃ (intsTake 6 hi) c69₃ c70₃ (by decide) (by decide) z₃'
    (fun h' tk k z => cls _ h' tk (fun b o e => k _ _ (kS _ _ e)) z) fun h₄ h₅ tk₅ tb kh₄ G₅ K₅ c69₅ c70₅ k₅ => ?_))
  clear hs₁
  obtain ⟨hN0, hN1, hN7, hN13⟩ := lawNs_ok ns
  have hdl : ∀ b, ∀ n ∈ lawNs ns, (digs b (n.toNat + 1) 0 n).length ≤ 64 := fun b n hn => Nat.le_trans (num_short (hN0 n hn) (hN1 n hn)) (by decide)
  have hy' : IntsAre ys (lawNs ns) := hy
  generalize hb : (ns.take 6).sum % 200 = b at *
  have hDge' : 69 ≤ D := Nat.le_trans (by show 69 ≤ h₂.objs.size; rw [z₂]; decide) hDge
  have hDne : ∀ k : Nat, k < 73 → D ≠ k := fun k hk => Nat.ne_of_gt (Nat.lt_of_lt_of_le hk (Nat.le_trans (by show 73 ≤ h₂.objs.size; rw [z₂]; decide) hDge))
  have F₅ : Fr g 68 h₅ _ := ⟨F₃.ns.at' fun o e => k₅ 68 o (by decide) (by decide) (by decide) e, fun b o e => by
    have hlt := ltN e
    rw [gz] at hlt
    exact k₅ b o (gk b o e).1 (Nat.ne_of_lt (Nat.lt_trans hlt (by decide))) (Nat.ne_of_lt (Nat.lt_trans hlt (by decide))) (F₃.keep b o e), F₃.above⟩
  have c72₅ : h₅.IsCell 72 (some (.ref D)) := let ⟨o, e, d⟩ := c72₃; ⟨o, k₅ _ _ (by decide) (by decide) (by decide) e, d⟩
  have c71₅ : h₅.IsCell 71 none := let ⟨o, e, d⟩ := c71₃; ⟨o, k₅ _ _ (by decide) (by decide) (by decide) e, d⟩
  have hD₅ : h₅.get? D = some { cls := .type "list", data := .seq (List.toArray ys) } := k₅ _ _ (hDne 37 (by decide)) (hDne 69 (by decide)) (hDne 70 (by decide)) hD
  have z5 : 69 ≤ h₅.objs.size := Nat.le_of_lt c69₅.lt
  have t63₅ : h₅.get? 63 = some (tabObj #[]) := k₅ _ _ (by decide) (by decide) (by decide) (kS _ _ t63)
  obtain ⟨o37, t37₅⟩ : ∃ o37, h₅.get? 37 = some o37 := let ⟨_, _, _, _, e⟩ := G₅; ⟨_, e⟩
  refine execsC (numeralsC (g := g) (ns := lawNs ns) (b := b) (l := D) (vs := ys) (cb := 69) (cnn := 72) rfl F₅ Xg Tg (by decide) rfl (by decide) rfl (by decide) rfl (fun _ => rfl) (fun _ => rfl) (by with_unfolding_all rfl) rfl rfl rfl rfl rfl rfl rfl c72₅ ⟨_, hD₅, rfl, _, rfl⟩ hy' c69₅ hN0 (hdl b) (by omega)
    fun h₆ tk₆ bs dn rp hbs hn₆ hdn hrp ldn lrp k₆ => ?_)
  have F₆ : Fr g 68 h₆ _ := ⟨hn₆, fun b o e => k₆ b o (Nat.ne_of_lt (by have := ltN e; rw [gz] at this; exact this)) (F₅.keep b o e), F₅.above⟩
  have K₆ : KIs h₆ := K₅.hi fun b o hb e => k₆ b o (Nat.ne_of_gt (Nat.lt_of_lt_of_le (by decide) hb)) e
  have c70₆ : h₆.IsCell 70 (some (.ref 146)) := let ⟨o, e, d⟩ := c70₅; ⟨o, k₆ _ _ (by decide) e, d⟩
  have c71₆ : h₆.IsCell 71 none := let ⟨o, e, d⟩ := c71₅; ⟨o, k₆ _ _ (by decide) e, d⟩
  have z6 : h₅.objs.size ≤ h₆.objs.size := Nat.le_trans ldn (Nat.le_of_lt (ltN hdn))
  have z86 : 86 ≤ h₆.objs.size := by
    obtain ⟨z, Z, _⟩ := K₆.frag
    exact Nat.le_trans (by decide) (Nat.le_of_lt (ltN (Z 146 _ rfl)))
  refine execsC (keysC (ys := bs) (ns := lawNs ns) (b := b) (dn := dn) (ck := 70) (cks := 71) rfl hn₆ (if_pos rfl) (Tg.nolimit.keeps F₆.keep) K₆ (by decide) rfl (by decide) rfl (by decide) rfl (fun _ => rfl) (by with_unfolding_all rfl) rfl rfl rfl rfl hdn hbs c70₆ c71₆ (by omega)
    fun h₇ tk₇ zs Dk hzs hDk hgDk c71₇ k₇ => ?_)
  have F₇ : Fr g 68 h₇ _ := ⟨hn₆.at' fun o e => k₇ 68 o (by decide) e, fun b o e => k₇ b o (Nat.ne_of_lt (by have := ltN e; rw [gz] at this; exact Nat.lt_trans this (by decide))) (F₆.keep b o e), F₆.above⟩
  have k57 : ∀ b o, b ≠ 68 → b ≠ 71 → h₅.get? b = some o → h₇.get? b = some o := fun b o b1 b2 e => k₇ b o b2 (k₆ b o b1 e)
  have far : ∀ {a k : Nat}, h₅.objs.size ≤ a → k < 69 → a ≠ k := fun h1 h2 => Nat.ne_of_gt (Nat.lt_of_lt_of_le h2 (Nat.le_trans z5 h1))
  have z73 : 73 ≤ h₅.objs.size := Nat.le_trans (by decide) (c72₅.lt)
  have ne71 : ∀ {a : Nat}, h₅.objs.size ≤ a → a ≠ 71 := fun h1 => Nat.ne_of_gt (Nat.lt_of_lt_of_le (by decide) (Nat.le_trans z73 h1))
  have I₇ : LI g b (lawNs ns) ⟨D, Dk, dn, rp, ys, zs, bs, tb⟩ o37 #[] _ h₇ := {
    F := F₇
    S := {
      K := K₆.hi fun b o hb e => k₇ b o (Nat.ne_of_gt (Nat.lt_of_lt_of_le (by decide) hb)) e
      cb := let ⟨o, e, d⟩ := c69₅; ⟨o, k57 _ _ (by decide) (by decide) e, d⟩
      cks := c71₇
      cn := let ⟨o, e, d⟩ := c72₅; ⟨o, k57 _ _ (by decide) (by decide) e, d⟩
      hl := ⟨_, k57 _ _ (hDne 68 (by decide)) (hDne 71 (by decide)) hD₅⟩
      iv := hy'
      hD := ⟨_, hgDk⟩
      kk := ⟨hzs.1, fun i n e => let ⟨a, dx, t, e1, e2, e3, e4⟩ := hzs.2 i n e; ⟨a, dx, t, e1, Nat.le_trans z86 e2, Nat.le_trans z86 e3, e4⟩⟩
      hn := ⟨_, k₇ _ _ (ne71 ldn) hdn⟩
      ny := hbs
      hr := let ⟨t1, t2, t3, e⟩ := hrp; ⟨t1, t2, t3, k₇ _ _ (ne71 lrp) e⟩
      al := hDge'
      aD := Nat.le_trans (by decide) (Nat.le_trans z86 hDk)
      an := Nat.le_trans z5 ldn
      ar := Nat.le_trans z5 lrp }
    mn := if_pos rfl
    mp := (if_neg (by decide)).trans (if_pos rfl)
    e37 := k57 _ _ (by decide) (by decide) t37₅
    e63 := k57 _ _ (by decide) (by decide) t63₅ }
  have hag : Agree b (lawNs ns) := agree_all hN0
  have hsh : Short b (lawNs ns) := short_all hN0 hN1
  refine execsC (wpC_of (sortIf (fr := some [_]) (gu := some []) (d := 302) (u := 7) ⟨rfl, rfl, rfl, rfl, rfl, rfl, rfl, rfl, rfl, rfl, rfl, rfl, rfl, rfl, rfl, rfl, rfl, rfl, rfl, rfl, rfl⟩ Xg Tg g63 I₇ (by with_unfolding_all rfl) rfl ⟨fun _ _ _ _ _ _ _ => by with_unfolding_all rfl, rfl, rfl, rfl, by decide, rfl, rfl, by decide, by decide⟩ (by with_unfolding_all rfl) rfl ⟨fun _ _ _ _ _ _ _ => by with_unfolding_all rfl, rfl, rfl, rfl, by decide, rfl, rfl, by decide, by decide⟩ rfl (by decide) (by decide) (by decide) (by omega) (by omega) hag hsh fun h₈ tk₈ c1 c2 I₈ => ?_))
  refine execsC (wpC_of (endsA (fr := some [_]) (gu := some []) (d := 302) (u := 7) ⟨rfl, rfl, rfl, rfl, rfl, rfl, rfl, rfl, rfl, rfl, rfl, rfl, rfl, rfl, rfl, rfl, rfl, rfl, rfl, rfl, rfl⟩ Xg Tg g63 I₈ (by with_unfolding_all rfl) rfl ⟨fun _ _ _ _ _ _ _ => by with_unfolding_all rfl, rfl, rfl, rfl, by decide, rfl, rfl, by decide, by decide⟩ (by with_unfolding_all rfl) rfl ⟨fun _ _ _ _ _ _ _ => by with_unfolding_all rfl, rfl, rfl, rfl, by decide, rfl, rfl, by decide, by decide⟩ (by simp [TriplesOk, rawInt]) (by simp [codeAmong, rawInt]) (fun _ => by simp [TriplesOk, rawInt]) (fun _ => by simp [codeAmong, rawInt]) (by decide) (by decide) (by omega) (by omega) hsh
    fun h₉ tk₉ ps₉ De t1 t2 hDe lDe hps I₉ => ?_))
  refine execsC (wpC_of (pairsA (nm := "keys") (y := "told") (c := 71) (Dl := Dk) (items := zs) (vs := vsK b (lawNs ns)) rfl ⟨rfl, rfl, rfl, rfl, rfl, rfl, rfl, rfl, rfl, rfl, rfl, rfl, rfl, rfl, rfl, rfl, rfl, rfl, rfl, rfl, rfl⟩ Xg Tg I₉ rfl rfl (by decide) I₉.S.cks I₉.S.hD (by rw [hzs.1]; omega) (by rw [nbr_length, hzs.1]) (by with_unfolding_all rfl) (by decide) rfl (by decide) rfl rfl rfl (by decide) (by decide)
    (fun i v s' e I' => tellK (fr := some [_]) (gu := some []) (d := 302) (u := 7) Xg Tg (by decide) (by decide) hsh e I') (fun hA tkA Dt yt IA kA hDt lDt rt => ?_) (by with_unfolding_all rfl)))
  refine execsC (wpC_of (pairsA (nm := "numbers") (y := "due") (c := 72) (Dl := D) (items := ys) (vs := vsN (lawNs ns)) rfl ⟨rfl, rfl, rfl, rfl, rfl, rfl, rfl, rfl, rfl, rfl, rfl, rfl, rfl, rfl, rfl, rfl, rfl, rfl, rfl, rfl, rfl⟩ Xg Tg IA rfl rfl (by decide) IA.S.cn IA.S.hl (by rw [hy'.length]; omega) (by rw [nbr_length, hy'.length]) (by with_unfolding_all rfl) (by decide) rfl (by decide) rfl rfl rfl (by decide) (by decide)
    (fun i v s' e I' => tellN e I') (fun hB tkB Dd yd IB kB hDd lDd rd => ?_) (by with_unfolding_all rfl)))
  have ne68 : ∀ {a : Nat}, 69 ≤ a → a ≠ 68 := fun h1 => Nat.ne_of_gt (Nat.lt_of_lt_of_le (by decide) h1)
  refine execsC (wpC_of (endsIf (fr := some [_]) (gu := some []) (d := 302) (u := 7) ⟨rfl, rfl, rfl, rfl, rfl, rfl, rfl, rfl, rfl, rfl, rfl, rfl, rfl, rfl, rfl, rfl, rfl, rfl, rfl, rfl, rfl⟩ Xg Tg IB (by decide) (by omega) hag ((if_neg (by decide)).trans ((if_neg (by decide)).trans (if_pos rfl))) ((if_neg (by decide)).trans (if_pos rfl)) (if_pos rfl)
    ((lDe.at fun o e => kA _ _ (ne68 hDe) e).at fun o e => kB _ _ (ne68 hDe) e) (lDt.at fun o e => kB _ _ (ne68 hDt) e) (rt.keeps fun b o hb e => kB b o (ne68 hb) e) lDd rd fun hC tkC kC => ?_))
  refine execsC (sizeIf (fr := some [_]) (gu := some []) (d := 302) (u := 7) ⟨rfl, rfl, rfl, rfl, rfl, rfl, rfl, rfl, rfl, rfl, rfl, rfl, rfl, rfl, rfl, rfl, rfl, rfl, rfl, rfl, rfl⟩ Xg Tg (IB.keeps kC) (by omega) (by decide) (by decide) hN0 hsh (counts_all hN0) (by with_unfolding_all rfl) (by decide) rfl (by decide) rfl (fun _ => rfl) (by with_unfolding_all rfl) (by decide) rfl (by decide) rfl (fun _ => rfl) (fun _ => rfl) rfl fun hE tkE kE => ?_)
  refine execsC (wpC_of (retA (fr := some [_]) (gu := some []) (d := 302) (u := 7) ⟨rfl, rfl, rfl, rfl, rfl, rfl, rfl, rfl, rfl, rfl, rfl, rfl, rfl, rfl, rfl, rfl, rfl, rfl, rfl, rfl, rfl⟩ Xg Tg ((IB.keeps kC).keeps kE) (by omega) (by omega) (by decide) (by decide) hN0 hsh (up_all hN0) (by decide) (by decide) fun hF tkF kF => ?_))
  have IF := ((IB.keeps kC).keeps kE).keeps kF
  refine ⟨rfl, ⟨fun a o e => ?_, fun a o e => ?_⟩, rfl, rfl⟩
  · by_cases a37 : a = 37
    · subst a37
      obtain ⟨c', ps', more, ht, hg⟩ := G₅
      rw [t37] at e
      cases e
      have eo : o37 = PySem.W.X.tableObj (ps' ++ more) := Option.some.inj (t37₅.symm.trans hg)
      have hF37 := IF.e37
      rw [eo] at hF37
      have ep : ps' = #[] := by
        have h1 := Option.some.inj (ht.2.symm.trans (kh₄ _ _ (kS _ _ t37)))
        injection h1 with _ _ h3
        injection h3
      subst ep
      exact .inr (.inl ⟨(C37.tab t37).isCodeTable, rfl, #[], more, rfl, hF37.trans (by rw [Array.empty_append]; rfl)⟩)
    · by_cases a63 : a = 63
      · subst a63
        rw [t63] at e
        cases e
        exact .inr (.inl ⟨(C63.tab t63).isCodeTable, rfl, #[], ps₉, rfl, IF.e63.trans (by rw [Array.empty_append])⟩)
      · exact .inl (IF.F.keep _ _ (gk2 _ _ a37 a63 e))
  · by_cases a37 : a = 37
    · exact ⟨_, a37 ▸ IF.e37⟩
    · by_cases a63 : a = 63
      · exact ⟨_, a63 ▸ IF.e63⟩
      · exact ⟨_, IF.F.keep _ _ (gk2 _ _ a37 a63 e)⟩
end Mine
end

section
/- part Mf -/
open PySem PySem.W PyProof.Rows PySem.Calls PySem.Spec
set_option maxRecDepth 100000
set_option maxHeartbeats 4000000
namespace Mine
/-- the caller's own context is clean -/
theorem caller_clean : Clean (⟨.builtin "claim.caller" {}, none, none, [], none⟩ : PySem.Ctx) := ⟨by decide, fun _ hx => nomatch hx⟩
/-- a thread that starts from the claim's caller comes to its end -/
theorem ends_C {prog : Program} {w : World} {t : Sem PySem.Fin} {s : Shared} {R : Result → Shared → Prop} (hreg : s.asleep)
    (h : wpC (model prog w) callerA t (fun fin s' => ∃ f, fin = .done f ∧ (R (.ok f) s' ∧ leftWithCleanup s'.gens = false)) (fun e s' => R (.error e) s' ∧ leftWithCleanup s'.gens = false) s) :
    ∃ n r s' s'', runN (denote table) prog w n s ⟨t, .builtin "claim.caller" {}, default, []⟩ = .halted (outcomeOf r) s' ∧
      schedN (denote table) prog w n (.single s ⟨t, .builtin "claim.caller" {}, default, []⟩) = .halted (outcomeOf r) s' ∧ s'.forget = s''.forget ∧ R r s'' := by
  obtain ⟨n, r, a, c, h1, h2, h3, h4⟩ := wp_halts_full (M := model prog w) (R := R) (p := default) (c := .builtin "claim.caller" {}) (t := t) hreg
    (Sem.wp_mono _ _ t (fun fin _ s' q => by obtain ⟨f, rfl, hf⟩ := q; exact hf) (fun _ _ _ q => q) default s (h _ default caller_in caller_clean))
  exact ⟨n, r, c, a, h2, h1, h3, h4⟩
/-- the head of an open law, its call shown over clean stacks alone (the name is the one that z_head asks for) -/
theorem PySem.W.holds_openX {r : OpenRow} {q : Program} {loose : List Str} {Xt : Shared → Bool} {XP : (Str → Option Value) → Heap → Prop} {α : Type} {Yf : Shared → α} {Ya : World → α} {d : DefRec} {kwd : List (Str × Expr)} {N : Nat}
    (left : LeftO r.prog q loose Xt Yf Ya N)
    (hX : ∀ s, Xt s = true → XP (s.heap.nsMap mainGlobals) s.heap) (hXk : ∀ mg h h', XP mg h → (∀ b o, h.get? b = some o → h'.get? b = some o) → XP mg h')
    (hdef : defOf q r.name = some (d, kwd)) (hp : r.prog.theDef r.name = some (d.params, d.body, d.scope)) (hk : kwWritten? d.params.kwonlyargs d.params.kw_defaults = some kwd) (hRf : ∀ s, Xt s = true → RecFacts r.records s.heap) (hwr : (!r.writes || r.records.isEmpty) = true)
    (k1 : r.wellSaid = true) (ok : (chainsOk q && opensWell r.prog && (frees r.toRowW && r.within.isEmpty)) = true) (hb : r.prog.bare) (hw : r.toRowW.promised)
    (walk : ∀ (w : World) (s₀ s₁ : Shared) (mg mb : Str → Option Value), Ground q loose r.records XP w s₀ mg mb s₁.heap → Yf s₀ = Ya w → ∀ (a : Addr), mg d.name = some (.ref a) → s₁.gens = #[] →
      ∀ (args : List WData) (vals : List Value) (as : List Addr), Laid r.records w s₀ s₁ args vals as → r.claim.pre args = true → WData.layableAll args = true → ReadsAllW r.records (classAt s₀.heap) s₁.heap vals args as → WellAll w.params s₁.heap vals args → (∀ a ∈ as, (a == sysModules) = false) →
        codeC (model r.prog w) callerA (.call (.ref a) ⟨vals, []⟩) (GoodWG r.claim (classAt s₀.heap) (ExcName.means s₀.heap) args s₁) s₁) : r.Holds := by
  obtain ⟨ok1, ok2⟩ := Bool.and_eq_true_iff.mp ok
  obtain ⟨hch, hopen⟩ := Bool.and_eq_true_iff.mp ok1
  obtain ⟨hfr, hin⟩ := Bool.and_eq_true_iff.mp ok2
  obtain ⟨hsame, hu, ha, hap, hm⟩ := frees_parts hfr
  have hwi : r.claim.within = [] := List.isEmpty_iff.mp hin
  have hid := ident_freeW hu ha hap
  refine ⟨k1, hw, ⟨hb, hopen, by show r.makers.map _ = []; rw [hm]; rfl⟩, hw.witness, fun w => ⟨(left.behind hX hch w).1, fun s' hs' => ?_⟩⟩
  obtain ⟨sb, hf, hg0, s, hT, hz, hgens, hns, G0, y⟩ := (left.behind (XP := fun mg h => XP mg h ∧ RecFacts r.records h) (fun s hs => ⟨hX s hs, hRf s hs⟩) hch w).2 s' hs'
  have G : Ground q loose [] XP w s (s.heap.nsMap mainGlobals) (s.heap.nsMap builtinsNs) s.heap := ⟨G0.T, G0.B, G0.D, G0.TE, G0.TD, G0.W, G0.X.1, G0.cls, G0.has, G0.apart, G0.once, G0.K⟩
  have RF := G0.X.2
  have GR : Ground q loose r.records XP w s _ _ s.heap := RF.ground G
  have hgens : s.gens = #[] := Array.eq_empty_of_size_eq_zero (beq_iff_eq.mp hgens)
  refine ⟨sb, hf, hg0, s, hT, fun n hn => ?_, RF.1, RF.2.1, fun args hpre hlay ord hord => ?_⟩
  · obtain rfl : n = r.name := by split at hn <;> simp_all
    exact pinned_of_view hns G hdef hp hk
  obtain ⟨⟨vs, s₁⟩, hlaid⟩ := Option.isSome_iff_exists.mp (layAllW_isSome (P := w.params) (ord := ord) GR.has args r.args s (pre_splitW hpre).1)
  have keeps := layAllW_keeps _ _ _ hlaid
  have hal := layAllW_rest _ _ _ hlaid
  obtain ⟨as, hrd, hbelow, hold⟩ := reads_layAllW hord _ _ _ hlaid hlay s₁.heap (fun _ _ e => e)
  have L : Laid r.records w s s₁ args vs as := ⟨⟨ord, hord, hlaid⟩, hrd, hbelow, hold, keeps, hal.1.trans hgens, hal.2.2.1⟩
  have G1 := GR.keeps hXk keeps
  obtain ⟨a, o, pm, cd, doc, dV, kV, h1, _⟩ := G1.fn hdef
  have go := walk w s s₁ _ _ G1 y a (defOf_name hdef ▸ h1) L.gens args vs as L hpre hlay L.reads L.well (L.low GR.low)
  have hwp : wpC (model r.prog w) callerA (do match ← nsGet mainNs r.name with
      | some f => do ret (← PySem.call f vs)
      | none => unsupported "claim.caller:no-such-global")
      (fun fin s' => ∃ f, fin = .done f ∧ ((r.claim.Ends s args vs s₁ (.ok f) s' ∧ s'.os = s.os ∧ (r.writes = true → namesKept r.claim.prog r.keeps s.heap s'.heap ∧ ∀ x ∈ r.claim.records, ∀ a, classAt s.heap x.1 = some a → recordClass s'.heap a x.1 (x.2.map (·.1)) = true)) ∧ leftWithCleanup s'.gens = false))
      (fun e s' => (r.claim.Ends s args vs s₁ (.error e) s' ∧ s'.os = s.os ∧ (r.writes = true → namesKept r.claim.prog r.keeps s.heap s'.heap ∧ ∀ x ∈ r.claim.records, ∀ a, classAt s.heap x.1 = some a → recordClass s'.heap a x.1 (x.2.map (·.1)) = true)) ∧ leftWithCleanup s'.gens = false) s₁ := by
    refine wpC_bind (wpC_of (wpAny_nsGet G1.T.g ?_))
    rw [h1]
    refine wpC_bind (wpC_call (codeC_mono go fun res s' g => ?_))
    have z := g.laid (c := r.claim) hsame hwi hid L
    have kp : r.writes = true → namesKept r.claim.prog r.keeps s.heap s'.heap ∧ ∀ x ∈ r.claim.records, ∀ a, classAt s.heap x.1 = some a → recordClass s'.heap a x.1 (x.2.map (·.1)) = true := fun q => ⟨namesKept_of hT hns r.keeps keeps g.2.1.old, noTable hwr q⟩
    rcases g.1 with ⟨v, _, _, rfl, _⟩ | ⟨e, _, _, rfl, _⟩
    · exact wpC_pure ⟨_, rfl, ⟨z.1, z.2.1, kp⟩, leftWithCleanup_false_of_bare z.2.2⟩
    · exact ⟨⟨z.1, z.2.1, kp⟩, leftWithCleanup_false_of_bare z.2.2⟩
  obtain ⟨k, res, s2, s3, hrun, hsched, hfo, hcase, hos, hkp⟩ := ends_C (prog := r.prog) (w := w) (s := s₁) (R := fun res s' => r.claim.Ends s args vs s₁ res s' ∧ s'.os = s.os ∧ (r.writes = true → namesKept r.claim.prog r.keeps s.heap s'.heap ∧ ∀ x ∈ r.claim.records, ∀ a, classAt s.heap x.1 = some a → recordClass s'.heap a x.1 (x.2.map (·.1)) = true)) (Shared.asleep_of_life hal.2.2.2 hz) hwp
  obtain ⟨eh, _, _, eo, _⟩ := Shared.forget_eq hfo
  have hcase := hcase.congr eh
  rw [← eh] at hkp
  rw [← eo] at hos
  have hlife : s2.heap.life = s.heap.life := (runN_life _ _ _ hrun).trans hal.2.2.2
  refine ⟨vs, s₁, hlaid, k, _, s2, hsched, ?_, (fun _ i x hx => by rw [hgens] at hx; simp at hx), hkp, by rw [hlife], Shared.rest_eq hos⟩
  rcases hcase with ⟨v, rfl, d1, d2, d3, d4, d5⟩ | ⟨e, ob, cls, rfl, d1, d2, d3, d4, d5⟩
  · exact .inl ⟨v, rfl, d1, d2, d3, fun b o y _ => d4 b o y, d5⟩
  · exact .inr ⟨e, ob, cls, rfl, d1, d2, d3, d4, fun b o y _ => d5 b o y⟩
end Mine
end

section
/- part Mg -/
open PySem PySem.W PySem.W.X PySem.W.ZRun PyProof.Rows
set_option maxRecDepth 100000
set_option maxHeartbeats 0
namespace Mine
def okTrue : Result := .ok (.ret (.bool true))
/-- a claim that says a thing of the end -/
noncomputable def clm (P : Prop) : ClaimW := { prog := PySem.Challenge.pw_ny0055_01, records := [], pre := fun _ => true, post := fun _ _ _ => @decide P (Classical.propDecidable P) }
theorem post_of {P : Prop} (h : P) {a b c} : (clm P).post a b c = true := by
  show @decide P (Classical.propDecidable P) = true
  exact @decide_eq_true P (Classical.propDecidable P) h
theorem of_post {P : Prop} {cl mean args s₁ s'} (h : GoodWG (clm P) cl mean args s₁ okTrue s') : P := by
  rcases h.1 with ⟨v, d, as, _, _, _, hp, _⟩ | ⟨e, ob, cls, h, _⟩
  · exact @of_decide_eq_true P (Classical.propDecidable P) hp
  · cases h
def chV (ch : Ch) : Array Value := match ch with | [(_, vs)] => vs | _ => #[]
theorem chAt (vs : Array Value) (b : Addr) : chLook [(37, vs)] b = match Nat.beq 37 b with | true => some vs | false => none := rfl
theorem keep9 {V : XV} {h : Heap} {T : BT} {m : Nat} {ch : Ch} (D : Rep V h T m ch) (e : ch = [(37, chV ch)]) : ∀ b o, b ≠ 37 → V.h₀.get? b = some o → h.get? b = some o := by
  intro b o hb x
  refine D.keep b o x ?_
  rw [e, chAt]
  cases q : Nat.beq 37 b with
  | true => exact absurd (Nat.eq_of_beq_eq_true q).symm hb
  | false => rfl
theorem grew9 {V : XV} {h : Heap} {T : BT} {m : Nat} {ch : Ch} (D : Rep V h T m ch) (e : ch = [(37, chV ch)]) : Grew V.h₀ h 37 := by
  obtain ⟨h1, c, ps, more, h2, h3⟩ := D.ch 37 (chV ch) (by rw [e]; rfl)
  exact ⟨c, ps, more, h2, h3 ▸ h1⟩
namespace S
/-- a stand-in of the head, which says nothing (what holds, holds): it serves to have all the top's objects written out ahead of the class's making -/
theorem PySem.W.holds_openX {r : OpenRow} [i : Nonempty r.Holds] {q : Program} {loose : List Str} {Xt : Shared → Bool} {XP : (Str → Option Value) → Heap → Prop} {α : Type} {Yf : Shared → α} {Ya : World → α} {N : Nat}
    (_ : ∀ w : World, w = w) (_ : ∀ s, Xt s = true → XP (s.heap.nsMap mainGlobals) s.heap) (_ : ∀ mg h h', XP mg h → (∀ b o, h.get? b = some o → h'.get? b = some o) → XP mg h')
    (_ : q = q) (_ : loose = loose) (_ : (Yf, Ya) = (Yf, Ya)) (_ : ∀ s, Xt s = true → RecFacts r.records s.heap) (_ : N = N) (_ : True) (_ : True) (_ : 0 = 0 ∧ 0 = 0 ∧ 0 = 0 ∧ 0 = 0 ∧ 0 = 0 ∧ True) (_ : True) (_ : True) : r.Holds := i.elim fun h => h
theorem zt [i : Nonempty PySem.Challenge.rw_ny0055_01.row.Holds] : PySem.Challenge.rw_ny0055_01.row.Holds := by
  w_on; z_head; (case hw => trivial)
  trivial
end S
set_option hygiene false in
local macro_rules | `(tactic| wrow_post) => `(tactic| (refine post_of ?_; rename Rep _ _ _ _ _ => D9; exact ⟨st_eq hg₂ rfl rfl rfl, rfl, kis_of D9 (by kernel_rfl) (by kernel_rfl) (by kernel_rfl) (by kernel_rfl) (by kernel_rfl) (by kernel_rfl) (by kernel_rfl) (by kernel_rfl) (by kernel_rfl) (by kernel_rfl), D9.size, keep9 D9 (by kernel_rfl), grew9 D9 (by kernel_rfl)⟩))
theorem cls_make {w : World} {s₂ : Shared} {env : Env} (ZH : KT.Holds s₂.heap 1 0 (S.zt.ktop_133 w.params)) (hs₂ : s₂.heap.objs.size = 86) (hg₂ : s₂.gens = #[]) :
     wpAny (model Challenge.rw_ny0055_01.row.prog w) (callerA.deeper env) (call (.ref 42) [.ref 47]) (fun v s' => GoodWG (clm (Made s₂ v s')) (fun _ => none) (fun _ => none) [] s₂ okTrue s') (fun _ _ => False) s₂ := by
  z_run
theorem sub_in {K K' : Frag} {h : Heap} (X : K'.In h) (e : K.map (fun p => K'.lookup p.1) = K.map fun p => some p.2) : K.In h := fun a o q => by
  have hm := lookup_mem q
  exact X a o (List.map_inj_left.mp e (a, o) hm)
theorem final : PySem.Challenge.rw_ny0055_01.Holds := by
  w_on; o_law; z_head; (case hw => w_witness2)
  intro w s₀ s₁ mg mb G y fa hmg hg args vals as L hpre hlay hrd hwl hlo
  z_open y L KX ZH ZN ZT
  refine Ground.open G ?_
  intro T B D TE TW
  wrow_args hpre hlay hrd hwl hlo
  obtain ⟨hat, hsz⟩ := script_at L
  rw [ZN] at hat hsz
  subst hat
  have hfa : fa = 66 := by
    have h9 : mg "law" = some (.ref 66) := mg_of KX T.g (by rfl)
    have h8 : mg "law" = some (.ref fa) := hmg
    rw [h9] at h8
    cases h8
    rfl
  subst hfa
  have X : (hd.heap_1 w.params).In s₁.heap := sub_in KX (by kernel_rfl)
  rename IntsAre _ _ => hI
  rename Heap.IsList _ _ _ => hL
  rename ¬ _ => hlen
  refine codeC_mono (law_ok X T (KX 37 _ rfl) (KX 63 _ rfl) hsz hL hI (by have := hI.length; omega) fun env h₂ tk k z => wpAny_mono (cls_make (s₂ := { s₁ with heap := h₂, toks := tk }) (KT.Holds.keeps k ZH) z hg) (fun v s' g => of_post g) fun _ _ q => q) fun r s' hp => ?_
  obtain ⟨rfl, K, hgn, hos⟩ := hp
  refine ⟨.inl ⟨.bool true, .bool true, [], rfl, ?_, .bool true, ?_, ?_⟩, K, hos, .of_eq (hgn.trans hg)⟩
  · exact raisesW_false (by wrow_none_raised)
  · wrow_post
  · exact fun _ => ⟨.nil, fun _ h => nomatch h⟩
end Mine
end

theorem PySem.Challenge.cw_ny0055_01_holds : PySem.Challenge.rw_ny0055_01.Holds :=
  Mine.final
