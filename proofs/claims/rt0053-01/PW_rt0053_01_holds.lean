import PyProof.Rows.All
import Wide.All
import OpenK.AllK
import Wide.FinOn
import PySem.Challenge.RW_rt0053_01
open PySem PySem.W PyProof.Rows
set_option Elab.async false
set_option maxRecDepth 100000
set_option maxHeartbeats 8000000
local macro_rules | `(tactic| walk_at $s:str) => `(tactic| k_extra $s)
section
open PySem PySem.W PyProof.Rows PySem.Calls
namespace Mine
theorem slot_fz_contains : Slot "frozenset" "__contains__" "frozenset.__contains__" :=
  .of (owner := "frozenset") (n := "__contains__") (by rw [typeLookup_type, builtinLookup_eq_fast]; kernel_rfl) (by decide +kernel) (by decide +kernel) (by decide +kernel)
    (by first | exact .inl (by decide +kernel) | exact .inr (by decide +kernel)) (by rw [isSubtype_type]; kernel_rfl)
theorem entry_fz_contains : entryFor table "frozenset.__contains__" = some Builtin.«frozenset.__contains__» := entryFor_of_tree (by kernel_rfl)
theorem args_fz_contains_2 (a b : Value) : argsOk "frozenset.__contains__" ⟨[a, b], []⟩ := by unfold argsOk; first | (rewrite [PySem.W.S.signatureZ_eq]; kernel_rfl) | kernel_rfl
theorem slot_fz_isdisjoint : Slot "frozenset" "isdisjoint" "frozenset.isdisjoint" :=
  .of (owner := "frozenset") (n := "isdisjoint") (by rw [typeLookup_type, builtinLookup_eq_fast]; kernel_rfl) (by decide +kernel) (by decide +kernel) (by decide +kernel)
    (by first | exact .inl (by decide +kernel) | exact .inr (by decide +kernel)) (by rw [isSubtype_type]; kernel_rfl)
theorem type_fz_isdisjoint : typeOf (.builtin "frozenset.isdisjoint") = pure (.type "method_descriptor") := by show builtinType _ = _; rw [builtinType_eq_fast]; kernel_rfl
theorem entry_fz_isdisjoint : entryFor table "frozenset.isdisjoint" = some Builtin.«frozenset.isdisjoint» := entryFor_of_tree (by kernel_rfl)
theorem args_fz_isdisjoint_2 (a b : Value) : argsOk "frozenset.isdisjoint" ⟨[a, b], []⟩ := by unfold argsOk; first | (rewrite [PySem.W.S.signatureZ_eq]; kernel_rfl) | kernel_rfl
theorem plain_fz_loop : plainId "frozenset.isdisjoint.loop" = true := by decide +kernel
theorem entry_fz_loop : entryFor table "frozenset.isdisjoint.loop" = some Builtin.«frozenset.isdisjoint.loop» := entryFor_of_tree (by kernel_rfl)
theorem plain_up_loop : plainId "set.update.loop" = true := by decide +kernel
theorem entry_up_loop : entryFor table "set.update.loop" = some Builtin.«set.update.loop» := entryFor_of_tree (by kernel_rfl)
theorem mro_fz : mroOf (.type "frozenset") = pure [.type "frozenset", .type "object"] := by rw [mroOf_type]; kernel_rfl
theorem lookup_fz_new : typeLookup (.type "frozenset") "__new__" = pure (some (.builtin "frozenset.__new__")) := by rw [typeLookup_type, builtinLookup_eq_fast]; kernel_rfl
theorem slot_fz_init : Slot "frozenset" "__init__" "object.__init__" :=
  .of (owner := "object") (n := "__init__") (by rw [typeLookup_type, builtinLookup_eq_fast]; kernel_rfl) (by decide +kernel) (by decide +kernel) (by decide +kernel)
    (by first | exact .inl (by decide +kernel) | exact .inr (by decide +kernel)) (by rw [isSubtype_type]; kernel_rfl)
theorem called_fz : TypeCalled "frozenset" "frozenset.__new__" "object.__init__" :=
  ⟨by decide +kernel, by decide +kernel, ⟨_, _, mro_fz⟩, madeBy_type mro_fz lookup_fz_new (by decide +kernel), by decide +kernel, by rw [isSubtype_type]; kernel_rfl, slot_fz_init⟩
theorem typeCall_fz_0 : checkTypeCall "frozenset" ⟨[], []⟩ = pure () := by first | (rewrite [PySem.W.Fast.te11612656972197000677]; kernel_rfl) | kernel_rfl
theorem typeCall_fz_1 (a : Value) : checkTypeCall "frozenset" ⟨[a], []⟩ = pure () := by first | (rewrite [PySem.W.Fast.te11612656972197000677]; kernel_rfl) | kernel_rfl
theorem newCall_fz_0 : checkBuiltinCall "frozenset.__new__" ⟨[.type "frozenset"], []⟩ = pure () := by first | (rewrite [PySem.W.Fast.te10254737850608025244]; kernel_rfl) | kernel_rfl
theorem newCall_fz_1 (a : Value) : checkBuiltinCall "frozenset.__new__" ⟨[.type "frozenset", a], []⟩ = pure () := by first | (rewrite [PySem.W.Fast.te10254737850608025244]; kernel_rfl) | kernel_rfl
theorem entry_fz_new : entryFor table "frozenset.__new__" = some Builtin.«frozenset.__new__» := entryFor_of_tree (by kernel_rfl)
theorem plainAttrs_fz : PlainAttrs "frozenset" :=
  ⟨⟨"object.__getattribute__", by first | (rewrite [PySem.W.Fast.te1381439984260040727]; kernel_rfl) | (rw [typeLookup_type, builtinLookup_eq_fast]; kernel_rfl), by first | (rewrite [PySem.W.S.canonicalZ_eq]; kernel_rfl) | kernel_rfl⟩, by first | (rewrite [PySem.W.Fast.te1381439984260040727]; kernel_rfl) | (rw [typeLookup_type, builtinLookup_eq_fast]; kernel_rfl)⟩
theorem sub_fz : isSubtype (.type "frozenset") (.type "frozenset") = pure true := by rw [isSubtype_type]; kernel_rfl
end Mine
end
section
open PySem PySem.W PyProof.Rows PySem.Calls
namespace Mine
noncomputable abbrev fzEmpty (led : Bool) : Obj := { cls := .type "frozenset", dict := none, data := .set #[] 0 (.fresh 0 0 led) }
structure FzObj (prog : Program) (w : World) (o : Obj) (S : Str → Bool) : Prop where
  cls : o.cls = .type "frozenset"
  dict : o.dict = none
  ex : ∃ es ep t, o.data = .set es ep t ∧ ElemsOf (PySem.strKind prog w) es.toList ∧ (∀ k, S k = true ↔ ∃ e ∈ es.toList, (PySem.strKind prog w).is k e.2 = true) ∧ es.size < scanBound ∧ t.fits es.size = true
section
variable {prog : Program} {w : World} {A : Around} {E : Value → Shared → Prop} {s : Shared} {a : Addr}
theorem FzObj.empty (led : Bool) : FzObj prog w (fzEmpty led) (fun _ => false) :=
  ⟨rfl, rfl, #[], 0, _, rfl, fun e he => by simp at he, fun k => by simp, by decide, by rfl⟩
theorem fz_find {o : Obj} {S : Str → Bool} {x : Str} {t : Tok} {Q : Option Nat → Shared → Prop} (ho : s.heap.get? a = some o) (hS : FzObj prog w o S)
    (h : ∀ r : Option Nat, r.isSome = S x → Q r s) : wpAny (model prog w) A (setFind a (.str x t) ((PySem.strKind prog w).hash x)) Q E s := by
  obtain ⟨_, _, es, ep, tb, hd, hel, hmem, hb, hf⟩ := hS
  unfold setFind setFindIn
  refine wpAny_bind (wpAny_setState_of ho hd hf ?_)
  dsimp only
  rw [byScan_of (knd := PySem.strKind prog w) rfl hb hel]
  simp only [if_true]
  refine wpAny_bind (wpAny_rule (wpAny_bind (wpAny_setScan_of (strKind_is prog w x _) ho hd hf hel ?_)))
  have hx := hmem x
  cases hr : List.findIdx? (fun e => (PySem.strKind prog w).is x e.2) es.toList with
  | none =>
    refine wpAny_pure (h none ?_)
    have hno := List.findIdx?_eq_none_iff.mp hr
    cases hs : S x with
    | false => rfl
    | true =>
      obtain ⟨e, he, hp⟩ := hx.mp hs
      have := hno e he
      rw [hp] at this; cases this
  | some j =>
    refine wpAny_pure (h _ ?_)
    obtain ⟨hj, hpj, _⟩ := List.findIdx?_eq_some_iff_getElem.mp hr
    exact (hx.mpr ⟨_, List.getElem_mem hj, hpj⟩).symm
theorem fz_contains {o : Obj} {S : Str → Bool} {x : Str} {t : Tok} {Q : Bool → Shared → Prop} (ho : s.heap.get? a = some o) (hS : FzObj prog w o S)
    (h : Q (S x) { s with toks := s.toks + 1 }) : wpAny (model prog w) A (setContains a (.str x t)) Q E s := by
  unfold setContains
  refine wpAny_holding (wpAny_bind ((PySem.strKind prog w).pyHash (strKind_is prog w x t) ?_))
  refine wpAny_bind (fz_find (s := { s with toks := s.toks + 1 }) ho hS fun r hr => wpAny_pure ?_)
  rw [hr]; exact h
theorem fz_store {o : Obj} {es es' : Array (Int × Value)} {ep : Nat} {t t' : SetTable} {h : Heap} (ho : h.get? a = some o) (hd : o.data = .set es ep t) :
    (h.update a (Obj.putSet es' t')).get? a = some { o with data := .set es' (ep + 1) t' } := by
  have q := Heap.get?_update_self (Obj.putSet es' t') ho (by rw [putSet_of es' t' hd]; rfl)
  rw [putSet_of es' t' hd] at q
  exact q
theorem fz_add {led : Bool} {x : Str} {t : Tok} {Q : Bool → Shared → Prop} (ho : s.heap.get? a = some (fzEmpty led))
    (h : ∀ h' o', Heap.SameBut a s.heap h' → h'.get? a = some o' → FzObj prog w o' (fun k => decide (k = x)) → Q true { s with heap := h', toks := s.toks + 1 }) :
    wpAny (model prog w) A (setAdd a (.str x t)) Q E s := by
  have hkey := strKind_is prog w x t
  unfold setAdd
  refine wpAny_holding (wpAny_bind ((PySem.strKind prog w).pyHash hkey ?_))
  unfold setAddHashed setAddHashedIn
  refine wpAny_holding (wpAny_bind (wpAny_setState_of (s := { s with toks := s.toks + 1 }) ho rfl rfl ?_))
  dsimp only
  rw [show byScan (.str x t) #[] = true from by simp [byScan, Value.scannable, scanBound]]
  simp only [if_true]
  unfold setAddByScan
  refine wpAny_bind (wpAny_bind (wpAny_rule (wpAny_bind ?_)))
  refine wpAny_of_eq (show setScan a (.str x t) ((PySem.strKind prog w).hash x) true #[] = pure .absent from by unfold setScan setScanStrs; simp) ?_
  dsimp only
  have hp := layNew_perm (SetTable.fresh 0 0 led) #[] ((PySem.strKind prog w).hash x) (.str x t)
  have hf := layNew_fits (SetTable.fresh 0 0 led) #[] ((PySem.strKind prog w).hash x) (.str x t)
  generalize layNew (SetTable.fresh 0 0 led) #[] ((PySem.strKind prog w).hash x) (.str x t) = R at hp hf ⊢
  obtain ⟨es, tb, wd, gv⟩ := R
  dsimp only at hp hf ⊢
  have one : ∀ es' : Array (Int × Value), List.Perm es'.toList es.toList → es'.toList = [((PySem.strKind prog w).hash x, .str x t)] := fun es' q => by
    have := q.trans hp
    simpa using this
  have mk : ∀ (es' : Array (Int × Value)) (t' : SetTable) (ep : Nat), es'.toList = [((PySem.strKind prog w).hash x, .str x t)] → t'.fits es'.size = true →
      FzObj prog w { (fzEmpty led) with data := .set es' ep t' } (fun k => decide (k = x)) := fun es' t' ep e q =>
    ⟨rfl, rfl, es', ep, t', rfl, fun e' he => by rw [e] at he; cases List.mem_singleton.mp he; exact ⟨⟨x, hkey, rfl⟩, rfl⟩,
      fun k => by
        rw [e, decide_eq_true_eq]
        constructor
        · rintro rfl; exact ⟨_, List.mem_singleton.mpr rfl, hkey⟩
        · rintro ⟨e', he, hp⟩
          cases List.mem_singleton.mp he
          exact (PySem.strKind prog w).inj _ _ _ hp hkey,
      by rw [← Array.length_toList, e]; show 1 < scanBound; decide, q⟩
  have sz : ∀ es' : Array (Int × Value), es'.toList = [((PySem.strKind prog w).hash x, .str x t)] → es'.size ≤ sizeLine := fun es' e => by
    rw [← Array.length_toList, e, sizeLine_eq]; exact Nat.le_of_ble_eq_true rfl
  have e1 := one es (List.Perm.refl _)
  have hgw : ∀ (b : Bool) {s₁ : Shared} {Q' : Unit → Shared → Prop}, Q' () s₁ → wpAny (model prog w) A (match b with | true => rule "set.scan.the-table-gave-way" | false => pure ()) Q' E s₁ :=
      fun b s₁ Q' hq => by cases b <;> first | exact wpAny_pure hq | exact wpAny_rule hq
  have tail : ∀ t' : SetTable, t'.fits es.size = true → wpAny (model prog w) A (do
        storeSet a es t'
        if (!wd && t'.tooFull) = true then do
            (match (relayAll t' es (SetTable.grown es.size)).2.2 with | true => rule "set.scan.the-table-gave-way" | false => pure ())
            storeSet a (relayAll t' es (SetTable.grown es.size)).1 (relayAll t' es (SetTable.grown es.size)).2.1
            pure (some true)
          else pure (some true)) (fun r s' => r = some true ∧ Q true s') E { s with toks := s.toks + 1 } := fun t' hf' => by
    refine wpAny_bind (wpAny_storeSet_of (s := { s with toks := s.toks + 1 }) ho rfl ?_ (sz _ e1))
    have g1 := fz_store (es' := es) (t' := t') ho rfl
    have b1 := Heap.SameBut.update s.heap a (Obj.putSet es t')
    split
    · have rp := relayAll_perm t' es (SetTable.grown es.size)
      have rf := relayAll_fits t' es (SetTable.grown es.size)
      generalize relayAll t' es (SetTable.grown es.size) = R2 at rp rf ⊢
      obtain ⟨es2, t2, gv2⟩ := R2
      dsimp only at rp rf ⊢
      have e2 := one es2 rp
      refine wpAny_bind (hgw _ (wpAny_bind (wpAny_storeSet_of g1 rfl ?_ (sz _ e2))))
      exact wpAny_pure ⟨rfl, h _ _ (b1.trans (Heap.SameBut.update _ a _)) (fz_store (es' := es2) (t' := t2) g1 rfl) (mk es2 t2 _ e2 rf)⟩
    · exact wpAny_pure ⟨rfl, h _ _ b1 g1 (mk es t' _ e1 hf')⟩
  have fin : ∀ t' : SetTable, t'.fits es.size = true → wpAny (model prog w) A (do
        storeSet a es t'
        if (!wd && t'.tooFull) = true then do
            (match (relayAll t' es (SetTable.grown es.size)).2.2 with | true => rule "set.scan.the-table-gave-way" | false => pure ())
            storeSet a (relayAll t' es (SetTable.grown es.size)).1 (relayAll t' es (SetTable.grown es.size)).2.1
            pure (some true)
          else pure (some true)) (fun a_1 s' => wpAny (model prog w) A (match a_1 with | some added => pure added | none => setAddHashedIn a (Value.str x t) ((PySem.strKind prog w).hash x) 99999) Q E s') E { s with toks := s.toks + 1 } :=
    fun t' hf' => wpAny_mono (tail t' hf') (fun r s' ⟨e, q⟩ => by subst e; exact wpAny_pure q) fun _ _ x => x
  refine wpAny_bind (hgw _ ?_)
  split
  · refine wpAny_bind (wpAny_of_eq (hashByValue_scannable 8 rfl) ?_)
    refine fin _ ?_
    split
    · exact hf
    · exact SetTable.fits_plain_off hf
  · refine wpAny_bind (wpAny_pure ?_)
    simp only [if_true]
    exact fin _ hf
theorem meets_fz_new0 : Meets (Builtin.«frozenset.__new__» ⟨[.type "frozenset"], []⟩) (fun _ R s => ∀ led : Bool, R (.ok (.ret (.ref s.heap.objs.size))) { s with heap := s.heap.push (fzEmpty led) }) :=
  .of_wp fun prog w A R s h => by
    obtain ⟨hp, g, d, tk, os⟩ := s
    have hsub := sub_fz
    unfold Builtin.«frozenset.__new__» Builtin.Frozenset.newClass
    repeat (first | (with_reducible refine wpAny_ite_true (by decide +kernel) ?_) | (with_reducible refine wpAny_ite_false (by decide +kernel) ?_) | (with_reducible refine wpAny_pure ?_) | (with_reducible refine wpAny_bind ?_) | ((with_reducible show wpAny _ _ (noKeywords _ _) _ _ _); wp_delta) | ((with_reducible show wpAny _ _ (typeNameCut _ _) _ _ _); wp_delta) | ((with_reducible show wpAny _ _ (typeName _) _ _ _); wp_delta) | ((with_reducible show wpAny _ _ (checkCount _ _ _ _) _ _ _); wp_delta) | wp_step)
    rw [slot_fz_init.lookup]
    refine wpAny_pure ?_
    dsimp only
    repeat (first | (with_reducible refine wpAny_ite_true (by decide +kernel) ?_) | (with_reducible refine wpAny_ite_false (by decide +kernel) ?_) | (with_reducible refine wpAny_pure ?_) | (with_reducible refine wpAny_bind ?_) | ((with_reducible show wpAny _ _ (noKeywords _ _) _ _ _); wp_delta) | ((with_reducible show wpAny _ _ (typeNameCut _ _) _ _ _); wp_delta) | ((with_reducible show wpAny _ _ (typeName _) _ _ _); wp_delta) | ((with_reducible show wpAny _ _ (checkCount _ _ _ _) _ _ _); wp_delta) | wp_step)
    refine wpAny_askSetting (wpAny_pure ?_)
    dsimp only
    simp only [newObj]
    refine wpAny_bind (wpAny_alloc (wpAny_pure ?_))
    exact wpAny_pure ⟨_, rfl, h _⟩
theorem call_fz_0 {Q : Value → Shared → Prop} (h : ∀ led : Bool, Q (.ref s.heap.objs.size) { s with heap := s.heap.push (fzEmpty led) }) :
    wpAny (model prog w) A (call (.type "frozenset") []) Q E s := by
  refine callType_new called_fz (by decide) typeCall_fz_0 newCall_fz_0 (fun obj => F.args_object_init_1 obj) entry_fz_new meets_fz_new0 ?_
  intro led
  exact ⟨⟨_, Heap.get?_push_size _ rfl, rfl⟩, h led⟩
/-- the loop that fills a set out of one sign -/
theorem code_up_loop {I D : Addr} {fp wr : List Addr} {x : Str} {St : Nat → Heap → Prop} {led : Bool} {R : Result → Shared → Prop} (W : Walks prog w A.in1 I fp wr x.cps.size (SignAt x) St) (h1 : x.cps.size = 1)
    (hD : D ∉ fp) (hst : St 0 s.heap) (hd : s.heap.get? D = some (fzEmpty led))
    (h : ∀ h' tk o', (∀ b o, b ∉ wr → b ≠ D → s.heap.get? b = some o → h'.get? b = some o) → h'.get? D = some o' → FzObj prog w o' (fun k => decide (k = x)) → R (.ok (.ret .none)) { s with heap := h', toks := tk }) :
    codeAny (model prog w) A (.builtin "set.update.loop" ⟨[.ref D, .ref I], []⟩) R s := by
  have hDw : D ∉ wr := fun q => hD (W.sub _ q)
  refine codeAny_builtin entry_up_loop ?_
  rw [Around.under_plainId plain_up_loop _]
  show wpAny _ A.in1 (pyNext (.ref I) >>= _) _ _ s
  refine wpAny_bind (W.item 0 s _ _ (by omega) hst fun v h' tk hP hst' hk' => ?_)
  obtain ⟨c, u, hc, rfl⟩ := hP
  have hx : (⟨#[c]⟩ : Str) = x := by
    cases x with
    | mk cps =>
      congr
      cases hcps : cps.toList with
      | nil => rw [← Array.length_toList, hcps] at h1; cases h1
      | cons y r =>
        rw [← Array.length_toList] at h1
        rw [hcps] at h1
        have : r = [] := by cases r with | nil => rfl | cons => simp at h1
        subst this
        rw [← Array.getElem?_toList, hcps] at hc
        simp at hc
        rw [hc]
  rw [hx]
  refine wpAny_bind (wpAny_holding (fz_add (s := { s with heap := h', toks := tk }) (hk' _ _ hDw hd) fun h2 o' sb ho hF => ?_))
  refine wpAny_pure ⟨plainId_quiet plain_up_loop _, codeAny_builtin entry_up_loop ?_⟩
  rw [Around.under_plainId plain_up_loop _]
  show wpAny _ A.in1 (pyNext (.ref I) >>= _) _ _ _
  have hst2 : St x.cps.size h2 := by
    rw [h1]
    exact W.frame _ _ _ hst' fun b hb o e => (sb.2 b (fun q => hD (q ▸ hb))).trans e
  refine wpAny_bind (W.done _ _ _ hst2 fun h3 tk3 hk3 => ?_)
  refine wpAny_pure ?_
  exact h h3 tk3 o' (fun b o hb hbD e => hk3 _ _ hb ((sb.2 b hbD).trans (hk' _ _ hb e))) (hk3 _ _ hDw ho) hF

theorem code_fz_new1 {x : Str} {t : Tok} {Q₁ : Value → Shared → Prop} (hh : A.handled = none) (h1 : x.cps.size = 1)
    (h : ∀ h' tk o', (∀ b o, s.heap.get? b = some o → h'.get? b = some o) → h'.get? s.heap.objs.size = some o' → FzObj prog w o' (fun k => decide (k = x)) → Q₁ (.ref s.heap.objs.size) { s with heap := h', toks := tk }) :
    codeAny (model prog w) A (.call (.builtin "frozenset.__new__") ⟨[.type "frozenset", .str x t], []⟩) (wants Q₁ E) s := by
  refine codeAny_of_tree ?_
  show wpAny _ A.in1 (do checkBuiltinCall "frozenset.__new__" ⟨[.type "frozenset", .str x t], []⟩; again (.builtin "frozenset.__new__" ⟨[.type "frozenset", .str x t], []⟩)) _ _ s
  refine wpAny_bind (wpAny_of_eq (newCall_fz_1 _) (wpAny_pure ⟨plainId_quiet called_fz.plain _, codeAny_builtin entry_fz_new ?_⟩))
  rw [Around.under_plainId called_fz.plain _]
  unfold Builtin.«frozenset.__new__» Builtin.Frozenset.newClass
  have hsub := sub_fz
  obtain ⟨hp, g, d, tk, os⟩ := s
  dsimp only
  repeat (first | (with_reducible refine wpAny_ite_true (by decide +kernel) ?_) | (with_reducible refine wpAny_ite_false (by decide +kernel) ?_) | (with_reducible refine wpAny_pure ?_) | (with_reducible refine wpAny_bind ?_) | ((with_reducible show wpAny _ _ (noKeywords _ _) _ _ _); wp_delta) | ((with_reducible show wpAny _ _ (typeNameCut _ _) _ _ _); wp_delta) | ((with_reducible show wpAny _ _ (typeName _) _ _ _); wp_delta) | ((with_reducible show wpAny _ _ (checkCount _ _ _ _) _ _ _); wp_delta) | wp_step)
  rw [slot_fz_init.lookup]
  refine wpAny_pure ?_
  dsimp only
  repeat (first | (with_reducible refine wpAny_ite_true (by decide +kernel) ?_) | (with_reducible refine wpAny_ite_false (by decide +kernel) ?_) | (with_reducible refine wpAny_pure ?_) | (with_reducible refine wpAny_bind ?_) | ((with_reducible show wpAny _ _ (noKeywords _ _) _ _ _); wp_delta) | ((with_reducible show wpAny _ _ (typeNameCut _ _) _ _ _); wp_delta) | ((with_reducible show wpAny _ _ (typeName _) _ _ _); wp_delta) | ((with_reducible show wpAny _ _ (checkCount _ _ _ _) _ _ _); wp_delta) | wp_step)
  refine wpAny_askSetting (wpAny_pure ?_)
  dsimp only
  simp only [newObj]
  refine wpAny_bind (wpAny_alloc (wpAny_pure ?_))
  refine wpAny_bind (wpAny_pure ?_)
  refine wpAny_bind ?_
  refine wpAny_holding ?_
  unfold Builtin.Frozenset.updateFrom Builtin.Frozenset.isAnySet
  have hs1 : isSubtype (.type "str") (.type "set") = pure false := by rw [isSubtype_type]; kernel_rfl
  have hs2 : isSubtype (.type "str") (.type "frozenset") = pure false := by rw [isSubtype_type]; kernel_rfl
  repeat (first | (with_reducible refine wpAny_ite_true (by decide +kernel) ?_) | (with_reducible refine wpAny_ite_false (by decide +kernel) ?_) | (with_reducible refine wpAny_pure ?_) | (with_reducible refine wpAny_bind ?_) | ((with_reducible show wpAny _ _ (noKeywords _ _) _ _ _); wp_delta) | ((with_reducible show wpAny _ _ (typeNameCut _ _) _ _ _); wp_delta) | ((with_reducible show wpAny _ _ (typeName _) _ _ _); wp_delta) | ((with_reducible show wpAny _ _ (checkCount _ _ _ _) _ _ _); wp_delta) | with_reducible apply wpAny_pyIter_str | wp_step)
  intro o St W hst
  have hD : (hp.push (fzEmpty (!(model prog w).w.params.followText "set-order"))).get? hp.objs.size = some (fzEmpty (!(model prog w).w.params.followText "set-order")) := Heap.get?_push_size _ rfl
  have hne : hp.objs.size ∉ [(hp.push (fzEmpty (!(model prog w).w.params.followText "set-order"))).objs.size] := by
    rw [Heap.size_push, List.mem_singleton]; omega
  refine wpAny_bind (wpAny_runValue (code_up_loop (W _ hh) h1 hne hst (Heap.get?_push_of_some _ hD) fun h' tk' o' hk ho hF => ?_))
  refine wpAny_pure ?_
  refine wpAny_pure ?_
  refine wpAny_pure ?_
  refine h h' tk' o' (fun b ob e => ?_) ho hF
  have lb := Heap.lt_size e
  refine hk b ob ?_ (Nat.ne_of_lt lb) (Heap.get?_push_of_some _ (Heap.get?_push_of_some _ e))
  rw [Heap.size_push, List.mem_singleton]
  exact Nat.ne_of_lt (Nat.lt_succ_of_lt lb)
theorem call_fz_1 {x : Str} {t : Tok} {Q : Value → Shared → Prop} (hh : A.handled = none) (h1 : x.cps.size = 1)
    (h : ∀ h' tk o', (∀ b o, s.heap.get? b = some o → h'.get? b = some o) → h'.get? s.heap.objs.size = some o' → FzObj prog w o' (fun k => decide (k = x)) → Q (.ref s.heap.objs.size) { s with heap := h', toks := tk }) :
    wpAny (model prog w) A (call (.type "frozenset") [.str x t]) Q E s := by
  refine callType_codes (Q₁ := fun obj s₁ => s₁.TypeIs obj "frozenset" ∧ Q obj s₁) called_fz (typeCall_fz_1 _) F.entry_object_init
    (code_fz_new1 (A := A.in1) hh h1 fun h' tk o' hk ho hF => ⟨⟨o', ho, hF.cls⟩, h h' tk o' hk ho hF⟩) fun obj s₁ hq => ⟨hq.1, F.args_object_init_2 _ _, ?_⟩
  exact object_init_meets called_fz.init.lookup called_fz.made (by decide) prog w A.in1 _ s₁ ⟨hq.1, rfl, hq.2⟩
theorem fz_notIn {o : Obj} {S : Str → Bool} {x : Str} {t : Tok} {Q : Value → Shared → Prop} (ho : s.heap.get? a = some o) (hS : FzObj prog w o S)
    (h : Q (.bool (!S x)) { s with toks := s.toks + 1 }) : wpAny (model prog w) A (compareOp .NotIn (.str x t) (.ref a)) Q E s := by
  have hT : s.TypeIs (.ref a) "frozenset" := ⟨o, ho, hS.cls⟩
  show wpAny _ _ (do return .bool (!(← contains (.ref a) (.str x t)))) Q E s
  refine wpAny_bind ?_
  unfold contains
  try with_reducible refine wpAny_holding ?_
  refine wpAny_bind (wpAny_specialOf hT slot_fz_contains.lookup ?_)
  rw [if_neg (by decide)]
  refine wpAny_bind (wpAny_callSpecialUnlessNone?_slot (name := Str.ofString "__contains__") hT slot_fz_contains
    (wpAny_call_entry slot_fz_contains hT entry_fz_contains ?_ (args_fz_contains_2 _ _)))
  unfold Builtin.«frozenset.__contains__» Builtin.Frozenset.oneOther
  simp only [List.isEmpty_nil, bind_assoc]
  unfold Builtin.Frozenset.addrOf Builtin.Frozenset.withSetAsKey
  refine wpAny_bind (wpAny_pure (wpAny_bind (wpAny_pure (wpAny_bind (wpAny_tryCatch (fz_contains ho hS ?_))))))
  exact wpAny_pure ⟨_, rfl, wpAny_truthy_bool (wpAny_pure h)⟩
theorem fz_method {o : Obj} {S : Str → Bool} {pl : Sem Bool} {Q : Value × List Value → Shared → Prop} (ho : s.heap.get? a = some o) (hS : FzObj prog w o S) (h : Q (.builtin "frozenset.isdisjoint", [.ref a]) s) :
    wpAny (model prog w) A (getMethod (.ref a) "isdisjoint" pl) Q E s :=
  getMethod_builtin ⟨o, ho, hS.cls⟩ plainAttrs_fz slot_fz_isdisjoint type_fz_isdisjoint (fun b e => by injection e with e; subst e; exact ⟨o, ho, hS.dict⟩) h
/-- signs of x from i on, none of which S knows -/
noncomputable def freeOf (S : Str → Bool) (x : Str) : Bool := x.cps.toList.all fun c => !S ⟨#[c]⟩
theorem code_dis_loop {I D : Addr} {fp wr : List Addr} {x : Str} {St : Nat → Heap → Prop} {o : Obj} {S : Str → Bool} {R : Result → Shared → Prop} (W : Walks prog w A.in1 I fp wr x.cps.size (SignAt x) St)
    (hD : D ∉ wr) (hS : FzObj prog w o S) : ∀ (k i : Nat) (s : Shared), x.cps.size - i = k → i ≤ x.cps.size → St i s.heap → s.heap.get? D = some o →
    (∀ h' tk, (∀ b o, b ∉ wr → s.heap.get? b = some o → h'.get? b = some o) → R (.ok (.ret (.bool ((x.cps.toList.drop i).all fun c => !S ⟨#[c]⟩)))) { s with heap := h', toks := tk }) →
    codeAny (model prog w) A (.builtin "frozenset.isdisjoint.loop" ⟨[.ref D, .ref I], []⟩) R s := by
  intro k
  induction k with
  | zero =>
    intro i s hk hi hst hd hR
    have hin : i = x.cps.size := by omega
    subst hin
    refine codeAny_builtin entry_fz_loop ?_
    rw [Around.under_plainId plain_fz_loop _]
    show wpAny _ A.in1 (pyNext (.ref I) >>= _) _ _ s
    refine wpAny_bind (W.done s _ _ hst fun h' tk hk' => wpAny_pure ?_)
    have := hR h' tk hk'
    rw [List.drop_of_length_le (by simp)] at this
    exact this
  | succ k ih =>
    intro i s hk hi hst hd hR
    have hlt : i < x.cps.size := by omega
    refine codeAny_builtin entry_fz_loop ?_
    rw [Around.under_plainId plain_fz_loop _]
    show wpAny _ A.in1 (pyNext (.ref I) >>= _) _ _ s
    refine wpAny_bind (W.item i s _ _ hlt hst fun v h' tk hP hst' hk' => ?_)
    obtain ⟨c, u, hc, rfl⟩ := hP
    have hdr : x.cps.toList.drop i = c :: x.cps.toList.drop (i + 1) := by
      rw [← Array.getElem?_toList] at hc
      obtain ⟨hl, hc⟩ := List.getElem?_eq_some_iff.mp hc
      rw [List.drop_eq_getElem_cons hl, hc]
    refine wpAny_bind (wpAny_holding (fz_contains (s := { s with heap := h', toks := tk }) (hk' _ _ hD hd) hS ?_))
    cases hb : S ⟨#[c]⟩ with
    | false =>
      simp only [Bool.false_eq_true, if_false]
      refine wpAny_pure ⟨plainId_quiet plain_fz_loop _, ih (i + 1) _ (by omega) hlt hst' (hk' _ _ hD hd) fun h'' tk'' hk'' => ?_⟩
      have := hR h'' tk'' fun b o hbw e => hk'' b o hbw (hk' b o hbw e)
      rw [hdr, List.all_cons, hb, Bool.not_false, Bool.true_and] at this
      exact this
    | true =>
      simp only [if_true]
      refine wpAny_pure ?_
      have := hR h' (tk + 1) hk'
      rw [hdr, List.all_cons, hb, Bool.not_true, Bool.false_and] at this
      exact this
theorem call_fz_dis {o : Obj} {S : Str → Bool} {x : Str} {t : Tok} {Q : Value → Shared → Prop} (hh : A.handled = none) (ho : s.heap.get? a = some o) (hS : FzObj prog w o S)
    (h : ∀ h' tk, (∀ b o, s.heap.get? b = some o → h'.get? b = some o) → Q (.bool (freeOf S x)) { s with heap := h', toks := tk }) :
    wpAny (model prog w) A (call (.builtin "frozenset.isdisjoint") [.ref a, .str x t]) Q E s := by
  have hT : s.TypeIs (.ref a) "frozenset" := ⟨o, ho, hS.cls⟩
  refine wpAny_call (codeAny_call_builtin slot_fz_isdisjoint.plain entry_fz_isdisjoint (slot_fz_isdisjoint.check _ _ _ _ _ _ _ _ hT (args_fz_isdisjoint_2 _ _) ?_))
  unfold Builtin.«frozenset.isdisjoint» Builtin.Frozenset.oneOther Builtin.Frozenset.addrOf
  refine wpAny_bind (wpAny_bind (wpAny_pure (wpAny_pure ?_)))
  dsimp only
  rw [if_neg (by simp)]
  refine wpAny_bind ?_
  refine wpAny_of_eq (show typeOf (.str x t) = pure (.type "str") from rfl) ?_
  rw [if_neg (by decide)]
  refine wpAny_bind (wpAny_pyIter_str fun o' St W hst => ?_)
  refine wpAny_pure ⟨plainId_quiet plain_fz_loop _, ?_⟩
  have hne : a ∉ [s.heap.objs.size] := fun q => by
    rw [List.mem_singleton] at q
    exact Nat.ne_of_lt (Heap.lt_size ho) q
  refine code_dis_loop (W _ hh) hne hS _ 0 _ rfl (Nat.zero_le _) hst (Heap.get?_push_of_some _ ho) fun h' tk' hk => ?_
  refine h h' tk' fun b ob e => hk b ob ?_ (Heap.get?_push_of_some _ e)
  rw [List.mem_singleton]
  exact Nat.ne_of_lt (Heap.lt_size e)
end
end Mine
end
section
open PySem PySem.W PyProof.Rows PySem.Calls
namespace Mine
section
variable {prog : Program} {w : World} {A : Around} {E : Value → Shared → Prop} {s : Shared} {a : Addr}
theorem kind_isub_nested : builtinKind "issubclass.nested" = none := by first | (rewrite [PySem.W.Fast.te11380579304954806539]; kernel_rfl) | kernel_rfl
theorem plain_isub_nested : plainId "issubclass.nested" = true := by decide +kernel
theorem args_isub_nested (a b c : Value) : argsOk "issubclass.nested" ⟨[a, b, c], []⟩ := by unfold argsOk; first | (rewrite [PySem.W.S.signatureZ_eq]; kernel_rfl) | kernel_rfl
theorem sub_str_self : isSubtype (.type "str") (.type "str") = pure true := by rw [isSubtype_type]; kernel_rfl
theorem meta_str : typeOf (.type "str") = pure (.type "type") := by first | kernel_rfl | rfl
theorem sub_tuple_self : isSubtype (.type "tuple") (.type "tuple") = pure true := by rw [isSubtype_type]; kernel_rfl
theorem isub_nested_str {k : Value} {dep : Int} {tk : Tok} {Q : Fin → Shared → Prop} (hk : k = .int dep tk) (hq : Q (.done (.ret (.bool true))) s) :
    wpAny (model prog w) A (Builtin.«issubclass.nested» ⟨[.type "str", .type "str", k], []⟩) Q E s := by
  subst hk
  have hm := meta_str
  have hself := sub_str_self
  repeat (any_goals (first | assumption | (rw [if_pos hm]) | (rw [hself]) | wp_step))
theorem isub_call_str {dep : Int} {tk : Tok} {Q : Value → Shared → Prop} (hq : Q (.bool true) s) :
    wpAny (model prog w) A (call (.builtin "issubclass.nested") [.type "str", .type "str", .int dep tk]) Q E s :=
  call_function_tree kind_isub_nested plain_isub_nested F.entry_issubclass_nested (args_isub_nested _ _ _) (isub_nested_str rfl hq)
theorem isub_tuple {T : Addr} {n : Nat} {Q : Value → Shared → Prop} (ht : s.heap.get? T = some { cls := .type "tuple", data := .seq #[.type "str", .type "bytes"] n }) (hq : Q (.bool true) s) :
    wpAny (model prog w) A (call (.builtin "issubclass") [.type "str", .ref T]) Q E s := by
  have hT : s.TypeIs (.ref T) "tuple" := ⟨_, ht, rfl⟩
  refine call_function_tree F.kind_issubclass F.plain_issubclass F.entry_issubclass (F.args_issubclass_2 _ _) ?_
  refine issubclass_outer (R := fun r s' => match r with | .ok (.ret v) => Q v s' | .ok _ => False | .error e => E e s') ?_
  unfold Builtin.«issubclass.nested»
  dsimp only
  refine wpAny_bind (wpAny_typeOf hT ?_)
  rw [if_neg (by decide)]
  unfold Builtin.Builtins.unionMembers
  refine wpAny_bind (wpAny_bind (wpAny_typeOf hT ?_))
  rw [if_neg (by decide)]
  refine wpAny_pure ?_
  refine wpAny_bind (wpAny_isInstance hT sub_tuple_self ?_)
  simp only [if_true]
  rw [if_neg (show ¬ ((0 : Int) ≥ Builtin.Builtins.nestingLimit) from by decide)]
  refine wpAny_bind (wpAny_seqItems ht rfl ?_)
  refine wpAny_bind ?_
  refine wpAny_bind ?_
  simp only [Option.getD_some]
  refine wpAny_bind (isub_call_str ?_)
  refine wpAny_bind (wpAny_truthy_bool ?_)
  simp only [if_true]
  exact wpAny_pure (wpAny_pure (wpAny_pure hq))

variable {h₀ : Heap} {L : Addr} {m : Str → Option Value} {news : List (Addr × Obj)}
theorem kz_issub {T : Addr} {n : Nat} {Q : Value → Shared → Prop} (N : News h₀ L s.heap news) (ht : (T, ({ cls := .type "tuple", data := .seq #[.type "str", .type "bytes"] n } : Obj)) ∈ news) (hq : Q (.bool true) s) :
    wpAny (model prog w) A (call (.builtin "issubclass") [.type "str", .ref T]) Q E s := isub_tuple (N _ ht).1 hq
/-- all that stood stands: the frame and the ledger go on, a new object joins -/
theorem grow_fr {h h' : Heap} (F : Fr h₀ L h m) (hk : ∀ b o, h.get? b = some o → h'.get? b = some o) : Fr h₀ L h' m := ⟨F.ns.keeps hk, fun b o e => hk b o (F.keep b o e), F.above⟩
theorem grow_news {h h' : Heap} (N : News h₀ L h news) (hk : ∀ b o, h.get? b = some o → h'.get? b = some o) : News h₀ L h' news := fun p hp => ⟨hk _ _ (N p hp).1, (N p hp).2⟩
theorem grow_cons {h h' : Heap} {D : Addr} {o : Obj} (F : Fr h₀ L h m) (N : News h₀ L h news) (hk : ∀ b o, h.get? b = some o → h'.get? b = some o) (hD : h.objs.size ≤ D) (ho : h'.get? D = some o) : News h₀ L h' ((D, o) :: news) := fun p hp => by
  rcases List.mem_cons.mp hp with rfl | hp
  · refine ⟨ho, Nat.ne_of_gt (Nat.lt_of_lt_of_le F.ns.lt hD), ?_⟩
    cases q : h₀.get? D with
    | none => rfl
    | some o' => exact absurd (Heap.lt_size (F.keep _ _ q)) (Nat.not_lt.mpr hD)
  · exact grow_news N hk p hp
theorem kz_fz0 {Q : Value → Shared → Prop} (F : Fr h₀ L s.heap m) (N : News h₀ L s.heap news)
    (h : ∀ D h' o, Fr h₀ L h' m → News h₀ L h' ((D, o) :: news) → FzObj prog w o (fun _ => false) → (∀ p ∈ news, p.1 < D) → Q (.ref D) { s with heap := h' }) :
    wpAny (model prog w) A (call (.type "frozenset") []) Q E s :=
  call_fz_0 fun led => h _ _ _ (F.push _) (N.push F _) (FzObj.empty led) fun p hp => Heap.lt_size (N p hp).1
theorem kz_fz1 {x : Str} {t : Tok} {Q : Value → Shared → Prop} (F : Fr h₀ L s.heap m) (N : News h₀ L s.heap news) (hh : A.handled = none) (h1 : x.cps.size = 1)
    (h : ∀ D h' tk o, Fr h₀ L h' m → News h₀ L h' ((D, o) :: news) → FzObj prog w o (fun k => decide (k = x)) → (∀ p ∈ news, p.1 < D) → Q (.ref D) { s with heap := h', toks := tk }) :
    wpAny (model prog w) A (call (.type "frozenset") [.str x t]) Q E s :=
  call_fz_1 hh h1 fun h' tk o hk ho hF => h _ _ tk o (grow_fr F hk) (grow_cons F N hk (Nat.le_refl _) ho) hF fun p hp => Heap.lt_size (N p hp).1
theorem kz_dis {D : Addr} {o : Obj} {S : Str → Bool} {x : Str} {t : Tok} {Q : Value → Shared → Prop} (F : Fr h₀ L s.heap m) (N : News h₀ L s.heap news) (hh : A.handled = none) (hm : (D, o) ∈ news) (hS : FzObj prog w o S)
    (h : ∀ h' tk, Fr h₀ L h' m → News h₀ L h' news → Q (.bool (freeOf S x)) { s with heap := h', toks := tk }) :
    wpAny (model prog w) A (call (.builtin "frozenset.isdisjoint") [.ref D, .str x t]) Q E s :=
  call_fz_dis hh (N _ hm).1 hS fun h' tk hk => h h' tk (grow_fr F hk) (grow_news N hk)
theorem kz_method {D : Addr} {o : Obj} {S : Str → Bool} {pl : Sem Bool} {Q : Value × List Value → Shared → Prop} (N : News h₀ L s.heap news) (hm : (D, o) ∈ news) (hS : FzObj prog w o S) (h : Q (.builtin "frozenset.isdisjoint", [.ref D]) s) :
    wpAny (model prog w) A (getMethod (.ref D) "isdisjoint" pl) Q E s := fz_method (N _ hm).1 hS h
theorem kz_notIn {D : Addr} {o : Obj} {S : Str → Bool} {x : Str} {t : Tok} {Q : Value → Shared → Prop} (N : News h₀ L s.heap news) (hm : (D, o) ∈ news) (hS : FzObj prog w o S)
    (h : Q (.bool (!S x)) { s with toks := s.toks + 1 }) : wpAny (model prog w) A (compareOp .NotIn (.str x t) (.ref D)) Q E s := fz_notIn (N _ hm).1 hS h
end
end Mine
end
section
open PySem PySem.W PyProof.Rows PySem.Calls PySem.Builtin PySem.Builtin.Str
namespace Mine
theorem args_index4 (a b c d : Value) : argsOk "str.count" ⟨[a, b, c, d], []⟩ := by unfold argsOk; first | (rewrite [PySem.W.S.signatureZ_eq]; kernel_rfl) | kernel_rfl
theorem args_rindex4 (a b c d : Value) : argsOk "str.rindex" ⟨[a, b, c, d], []⟩ := by unfold argsOk; first | (rewrite [PySem.W.S.signatureZ_eq]; kernel_rfl) | kernel_rfl
theorem args_index3 (a b c : Value) : argsOk "str.index" ⟨[a, b, c], []⟩ := by unfold argsOk; first | (rewrite [PySem.W.S.signatureZ_eq]; kernel_rfl) | kernel_rfl
theorem gives_index3 (x y : Str) (i : Int) (t u v : Tok) {k : Nat} {r : List Nat} (ho : occurrences x y (fromIndex x.length i) x.length 1 = k :: r) : Gives («str.index» ⟨[.str x t, .str y u, .int i v], []⟩) (.int k) := by
  show Gives (match occurrences x y (fromIndex x.length i) (min x.length x.length) 1 with | i :: _ => retInt i | [] => (do rule "str.index.not-found"; raiseError "ValueError" "substring not found")) _
  rw [Nat.min_self, ho]
  exact .of_eq rfl
theorem raises_index3 (x y : Str) (i : Int) (t u v : Tok) (h : occurrences x y (fromIndex x.length i) x.length 1 = []) : Meets («str.index» ⟨[.str x t, .str y u, .int i v], []⟩) (raisesNew "ValueError") := by
  intro prog w A R s hS
  show wpAny _ _ (match occurrences x y (fromIndex x.length i) (min x.length x.length) 1 with | i :: _ => retInt i | [] => _) _ _ s
  rw [Nat.min_self, h]
  first
    | exact wpAny_bind (wpAny_rule (by exact_raiseError plainExc_ValueError hS.1 hS.2))
    | exact wpAny_bind (wpAny_rule (wpAny_bind (by exact_raiseError plainExc_ValueError hS.1 hS.2)))
theorem gives_count4 (x y : Str) (i j : Int) (t u v v' : Tok) : Gives («str.count» ⟨[.str x t, .str y u, .int i v, .int j v'], []⟩) (.int (occurrences x y (fromIndex x.length i) (min (fromIndex x.length j) x.length) (x.length + 1)).length) := by
  show Gives (retInt (occurrences x y (fromIndex x.length i) (min (fromIndex x.length j) x.length) (x.length + 1)).length) _
  exact .of_eq rfl
theorem gives_rindex4 (x y : Str) (i j : Int) (t u v v' : Tok) {k : Nat} (ho : lastOccurrence x y (fromIndex x.length i) (min (fromIndex x.length j) x.length) = some k) : Gives («str.rindex» ⟨[.str x t, .str y u, .int i v, .int j v'], []⟩) (.int k) := by
  show Gives (match lastOccurrence x y (fromIndex x.length i) (min (fromIndex x.length j) x.length) with | some i => retInt i | none => (do rule "str.rindex.not-found"; raiseError "ValueError" "substring not found")) _
  rw [ho]
  exact .of_eq rfl
/-- how many there are -/
noncomputable def cnt4 (x y : Str) (j : Int) : Int := ((occurrences x y 0 (min (fromIndex x.length j) x.length) (x.length + 1)).length : Nat)
theorem occ_size (s sub : Str) (hi limit : Nat) : ∀ (l : List Nat) (st : Array Nat × Nat), (forIn l st (StrLaws.occBody s sub hi limit)).run.fst.size ≤ st.fst.size + l.length
  | [], st => by simp
  | a :: l, st => by
    rw [List.forIn_cons]
    unfold StrLaws.occBody
    split
    · have h := occ_size s sub hi limit l (st.fst.push a, a + sub.length)
      simp only [Array.size_push, List.length_cons] at h ⊢
      exact Nat.le_trans h (by omega)
    · have h := occ_size s sub hi limit l (st.fst, st.snd)
      simp only [List.length_cons] at h ⊢
      exact Nat.le_trans h (by omega)
theorem cnt4_le (x y : Str) (j : Int) : cnt4 x y j ≤ x.length + 1 := by
  unfold cnt4
  rw [StrLaws.occ_eq]
  have h := occ_size x y (min (fromIndex x.length j) x.length) (x.length + 1) (List.range' 0 (min (fromIndex x.length j) x.length + 1 - 0)) (#[], 0)
  simp only [List.length_range', Array.length_toList] at h ⊢
  have : (#[] : Array Nat).size = 0 := rfl
  omega
theorem last_of_cnt {x y : Str} {j : Int} (h : cnt4 x y j ≠ 0) : ∃ k, lastOccurrence x y 0 (min (fromIndex x.length j) x.length) = some k := by
  cases hl : lastOccurrence x y 0 (min (fromIndex x.length j) x.length) with
  | some k => exact ⟨k, rfl⟩
  | none =>
    exfalso
    apply h
    unfold cnt4
    generalize min (fromIndex x.length j) x.length = hi at hl ⊢
    have key := StrLaws.last_run x y hi (List.range' 0 (hi + 1 - 0)) [] none (fun _ h => nomatch h) (fun _ h => nomatch h) (by simpa using List.pairwise_lt_range' (s := 0) (n := hi + 1 - 0))
    rw [StrLaws.last_eq] at hl
    rw [hl] at key
    rw [StrLaws.occ_eq]
    rcases StrLaws.occ_first x y hi (x.length + 1) (by omega) (List.range' 0 (hi + 1 - 0)) 0 (fun _ _ => Nat.zero_le _) with ⟨h0, _⟩ | ⟨pre, a, post, e, h0, ha, hn⟩
    · rw [h0]; rfl
    · exact absurd ha (key a (by rw [e]; simp))
section
variable {prog : Program} {w : World} {A : Around} {E : Value → Shared → Prop} {s : Shared} {x y : Str} {t u v v' : Tok} {i j : Int} {Q : Value → Shared → Prop}
theorem kz_index3 (hA : A.handled = none)
    (h0 : Txt.find3 x y i = -1 → ∀ h' tk e, Heap.NewExc s.heap h' e "ValueError" → E (.ref e) { s with heap := h', toks := tk })
    (h1 : 0 ≤ Txt.find3 x y i → Q (.int (Txt.find3 x y i) s.toks) { s with toks := s.toks + 1 }) :
    wpAny (model prog w) A (call (.builtin "str.index") [.str x t, .str y u, .int i v]) Q E s := by
  cases ho : occurrences x y (fromIndex x.length i) x.length 1 with
  | nil =>
    have e : Txt.find3 x y i = -1 := by unfold Txt.find3; rw [ho]
    exact call_meets F.slot_str_index (typeIs_str _ _ _) F.entry_str_index (args_index3 _ _ _) (raises_index3 x y i t u v ho) ⟨hA, h0 e⟩
  | cons k rest =>
    have e : Txt.find3 x y i = (k : Int) := by unfold Txt.find3; rw [ho]
    have h := h1 (by rw [e]; exact Int.natCast_nonneg k)
    rw [e] at h
    exact call_gives F.slot_str_index (typeIs_str _ _ _) F.entry_str_index (args_index3 _ _ _) (gives_index3 x y i t u v ho) h
theorem kz_index3_hit (h0 : 0 ≤ Txt.find3 x y i) (h1 : Q (.int (Txt.find3 x y i) s.toks) { s with toks := s.toks + 1 }) :
    wpAny (model prog w) A (call (.builtin "str.index") [.str x t, .str y u, .int i v]) Q E s := by
  cases ho : occurrences x y (fromIndex x.length i) x.length 1 with
  | nil =>
    have e : Txt.find3 x y i = -1 := by unfold Txt.find3; rw [ho]
    rw [e] at h0
    exact absurd h0 (by decide)
  | cons k rest =>
    have e : Txt.find3 x y i = (k : Int) := by unfold Txt.find3; rw [ho]
    rw [e] at h1
    exact call_gives F.slot_str_index (typeIs_str _ _ _) F.entry_str_index (args_index3 _ _ _) (gives_index3 x y i t u v ho) h1
theorem kz_count4 (hq : 0 ≤ cnt4 x y j → cnt4 x y j ≤ x.length + 1 → Q (.int (cnt4 x y j) s.toks) { s with toks := s.toks + 1 }) :
    wpAny (model prog w) A (call (.builtin "str.count") [.str x t, .str y u, .int 0 v, .int j v']) Q E s :=
  call_gives F.slot_str_count (typeIs_str _ _ _) F.entry_str_count (args_index4 _ _ _ _) (gives_count4 x y 0 j t u v v') (hq (Int.natCast_nonneg _) (cnt4_le x y j))
theorem kz_rindex4 (h0 : cnt4 x y j ≠ 0) (hj : 0 ≤ j) (hq : ∀ k : Nat, (k : Int) ≤ j → Q (.int k s.toks) { s with toks := s.toks + 1 }) :
    wpAny (model prog w) A (call (.builtin "str.rindex") [.str x t, .str y u, .int 0 v, .int j v']) Q E s := by
  obtain ⟨k, hk⟩ := last_of_cnt h0
  have hle : (k : Int) ≤ j := by
    have key := StrLaws.last_run x y (min (fromIndex x.length j) x.length) (List.range' 0 (min (fromIndex x.length j) x.length + 1 - 0)) [] none (fun _ h => nomatch h) (fun _ h => nomatch h) (by simpa using List.pairwise_lt_range' (s := 0) (n := min (fromIndex x.length j) x.length + 1 - 0))
    rw [StrLaws.last_eq] at hk
    rw [hk] at key
    have := key.1.1
    have hf : fromIndex x.length j ≤ j.toNat := by unfold fromIndex; split <;> omega
    omega
  exact call_gives F.slot_str_rindex (typeIs_str _ _ _) F.entry_str_rindex (args_rindex4 _ _ _ _) (gives_rindex4 x y 0 j t u v v' hk) (hq k hle)
end
end Mine
end
section
open PySem PySem.W PyProof.Rows PySem.Calls
namespace Mine
section
variable {prog : Program} {w : World} {A : Around} {E : Value → Shared → Prop} {s : Shared}
/-- one asking of a tuple's iterator, both ways at once: an item at this place, or none any more -/
theorem tup_step {it t : Addr} {i : Nat} {items : Array Value} {Q : Value → Shared → Prop} (hit : s.heap.IsTupleIter it t i) (ht : s.heap.IsTuple t items)
    (more : ∀ x h', items[i]? = some x → h'.IsTupleIter it t (i + 1) → Heap.SameBut it s.heap h' → Q x { s with heap := h' })
    (over : items[i]? = none → A.handled = none ∧ ∀ h' e, Heap.ExtBut it s.heap h' → (∃ o, h'.get? e = some o ∧ o.cls = .type "StopIteration") → E (.ref e) { s with heap := h' }) :
    wpAny (model prog w) A (Builtin.SmallTypes.nextOf (.ref it)) Q E s := by
  have ty := hit.typeIs
  obtain ⟨oi, hoi, hic, hid⟩ := hit
  obtain ⟨ot, hot, htc, nt, htd⟩ := ht
  have seq : ∀ {Q' : Option (Array Value) → Shared → Prop}, Q' (some items) s → wpAny (model prog w) A.in1 (seqItems? (.ref t)) Q' E s := fun h => wpAny_seqItems hot htd h
  have put : ∀ (k : Nat) (v : Value) {Q' : Unit → Shared → Prop}, k < 2 → (∀ h', Heap.SameBut it s.heap h' → h'.get? it = some (oi.mapFields fun vs => vs.setIfInBounds k v) → Q' () { s with heap := h' }) → wpAny (model prog w) A.in1 (setField (.ref it) k v) Q' E s := fun k v _ hk h =>
    wpAny_setField hoi hid (by simpa using hk) (h _ (Heap.SameBut.update ..) (Heap.get?_update_self _ hoi (Obj.isFreed_of_fields (Obj.data_mapFields hid _))))
  unfold Builtin.SmallTypes.nextOf
  refine wpAny_bind (wpAny_callSpecial?_slot (name := Str.ofString "__next__") ty F.slot_tuple_iterator_next (wpAny_call_entry F.slot_tuple_iterator_next ty F.entry_tuple_iterator_next ?_ (F.args_tuple_iterator_next_1 _)))
  change wpAny _ _ (field (.ref it) 0 >>= _) _ _ s
  refine wpAny_bind (wpAny_field hoi hid (x := .ref t) rfl ?_)
  change wpAny _ _ (if (Value.ref t == Value.none) = true then _ else field (.ref it) 1 >>= _) _ _ s
  refine (if_neg (c := (Value.ref t == Value.none) = true) (fun e => nomatch e)).symm ▸ ?_
  refine wpAny_bind (wpAny_field hoi hid (x := .int i 0) rfl (wpAny_bind (seq ?_)))
  simp only [Int.toNat_natCast]
  cases hx : items[i]? with
  | some x =>
    refine wpAny_bind (put 1 _ (by decide) fun h' hs hg => wpAny_pure ⟨x, rfl, wpAny_pure (more x h' hx ⟨_, hg, ?_, ?_⟩ hs)⟩)
    · rw [Obj.cls_mapFields]; exact hic
    · rw [Obj.data_mapFields hid]; simp [rawInt]
  | none =>
    obtain ⟨hh, over⟩ := over hx
    refine wpAny_bind (wpAny_rule (wpAny_bind (put 0 _ (by decide) fun h' hs _ => ?_)))
    unfold Builtin.SmallTypes.stopIteration
    refine wpAny_bind ?_
    unfold newExc newTuple
    refine wpAny_bind (wpAny_newObj_type ?_ (by size_fits))
    refine wpAny_bind (m := firstArgMember _ _) (wpAny_of_eq (a := Value.none) (by simp only [firstArgMember]; rfl) (wpAny_newObj_type ?_ (by size_fits)))
    unfold raiseNew
    refine wpAny_bind (wpAny_handled ?_)
    have hh1 : A.in1.handled = none := hh
    rw [hh1]
    refine wpAny_bind (wpAny_pure (wpAny_throw (over _ _ ((hs.extBut.push _).push _) ?_)))
    exact ⟨_, Heap.get?_push_size _ rfl, rfl⟩
/-- a tuple's iterator as a source of draws -/
theorem tup_draws (hh : A.handled = none) (it t : Addr) (hne : t ≠ it) (items : Array Value) : Draws prog w A it [it, t] items.size (fun i v => items[i]? = some v) (fun i h => h.IsTupleIter it t i ∧ h.IsTuple t items) where
  live := fun _ _ ⟨⟨o, ho, _⟩, _⟩ => ⟨o, ho⟩
  frame := fun _ _ _ st hk => ⟨st.1.at fun o e => hk it (.head _) o e, st.2.at fun o e => hk t (.tail _ (.head _)) o e⟩
  item := fun i s Q E hi st hQ => tup_step st.1 st.2 (fun x h' hx hit hs => hQ x h' s.toks hx ⟨hit, st.2.at fun o e => (hs.2 t hne).trans e⟩ hs) fun hn => absurd hi (Nat.not_lt.mpr (Array.getElem?_eq_none_iff.mp hn))
  done := fun s Q E st hE => tup_step st.1 st.2 (fun x _ hx => absurd (Array.getElem?_eq_some_iff.mp hx).1 (Nat.lt_irrefl _)) fun _ => ⟨hh, hE⟩
end
end Mine
end
section
open PySem PySem.W PyProof.Rows PySem.Calls
namespace Mine
/-- what enumerate lays on the heap, over any iterator -/
noncomputable def enumObj (I : Addr) : Obj := { cls := .type "enumerate", data := .fields #[.none, .bool false, .ref I, rawInt 0, .none, .none] }
/-- enumerate over whatever object gives one new iterator -/
theorem enum_new (l : Addr) (o io : Obj) (hI : ∀ {prog : Program} {w : World} {A : Around} {E : Value → Shared → Prop} {s : Shared} {Q : Value → Shared → Prop}, s.heap.get? l = some o →
      Q (.ref s.heap.objs.size) { s with heap := s.heap.push io } → wpAny (model prog w) A (pyIter (.ref l)) Q E s) :
    Meets (Builtin.«enumerate.__new__» ⟨[.type "enumerate", .ref l], []⟩) (fun _ R s => s.heap.get? l = some o ∧
      R (.ok (.ret (.ref (s.heap.push io).objs.size))) { s with heap := (s.heap.push io).push (enumObj s.heap.objs.size) }) := by
  refine .of_wp fun prog w A R s h => ?_
  rcases s with ⟨hp, g, d, tk, os⟩
  rcases h with ⟨hl, h⟩
  have hsub := sub_enumerate
  wp_walk using AutoSeq1.wpAny_loadPart' hl
  refine wpAny_stack_any fun st => wpAny_pure ?_
  split <;> first
    | (rename_i c _ _ _ _ _; cases (c == Value.type "enumerate") <;> (wp_walk using AutoSeq1.wpAny_loadPart' hl, hI hl; exact ⟨_, rfl, h⟩))
    | (wp_walk using AutoSeq1.wpAny_loadPart' hl, hI hl; exact ⟨_, rfl, h⟩)
section
variable {prog : Program} {w : World} {A : Around} {E : Value → Shared → Prop} {s : Shared}
theorem enum_tup_call {l : Addr} {o : Obj} {items : Array Value} {n : Nat} {Q : Value → Shared → Prop} (hl : s.heap.get? l = some o) (hc : o.cls = .type "tuple") (hd : o.data = .seq items n)
    (k : ∀ h', IsEnum h' (s.heap.objs.size + 1) s.heap.objs.size 0 .none → h'.IsTupleIter s.heap.objs.size l 0 → (∀ b o, s.heap.get? b = some o → h'.get? b = some o) → Q (.ref (s.heap.objs.size + 1)) { s with heap := h' }) :
    wpAny (model prog w) A (call (.type "enumerate") [.ref l]) Q E s := by
  refine callType_new F.called_enumerate (by decide) (F.typeCall_enumerate_1 _) (F.newCall_enumerate_1 _) (fun obj => F.args_object_init_2 obj _) F.entry_enumerate_new
    (enum_new l o { cls := .type "tuple_iterator", data := .fields #[.ref l, .int 0 0] } fun {_ _ _ _ s' _} e q => iter_tuple (s := s') ⟨o, e, hc, n, hd⟩ q) ⟨hl, ?_⟩
  have sz : ∀ (h : Heap) (x : Obj), (h.push x).objs.size = h.objs.size + 1 := fun h x => Heap.size_push ..
  have old : ∀ (h : Heap) (x : Obj) b o, h.get? b = some o → (h.push x).get? b = some o := fun h x b o e => Heap.get?_push_of_some _ e
  have e1 := Heap.get?_push_size (s.heap.push { cls := .type "tuple_iterator", data := .fields #[.ref l, .int 0 0] }) (o := enumObj s.heap.objs.size) rfl
  change _ ∧ _
  rw [sz] at e1 ⊢
  exact ⟨⟨_, e1, rfl⟩, k _ e1 ⟨_, old _ _ _ _ (Heap.get?_push_size _ rfl), rfl, rfl⟩ fun b o e => old _ _ _ _ (old _ _ _ _ e)⟩
end
end Mine
end
section
open PySem PySem.W PyProof.Rows PySem.Calls
namespace Mine
/-- the program and its parts, by their places -/
noncomputable abbrev pg : Program := PySem.Challenge.rw_rt0053_01.row.prog
noncomputable def stP : Stmt → Arguments
  | .FunctionDef _ a _ _ _ _ _ _ _ _ => a
  | _ => ⟨[], [], none, [], [], none, []⟩
noncomputable def stB : Stmt → List Stmt
  | .FunctionDef _ _ b _ _ _ _ _ _ _ => b
  | _ => []
noncomputable def stS : Stmt → Scope
  | .FunctionDef _ _ _ _ _ _ s _ _ _ => s
  | _ => { kind := .module, names := [], isGenerator := false, isCoroutine := false, more := [] }
noncomputable def fnSt (i : Nat) : Stmt := (PySem.Challenge.pw_rt0053_01.main.body).getD i (.Pass ⟨0, 0, 0, 0⟩)
/-- the objects that the walk knows -/
noncomputable def Kp : Params → Frag := fun P =>
  (nat_lit 2, (Obj.mk Value.none none (Data.dict #[] 0) #[])) ::
  (nat_lit 3, (Obj.mk (Value.type "dict") none (Data.dict #[(DictEntry.mk (PyData.keyHash P (Str.ofString "__name__")) (Value.str (Str.ofString "__name__") 165) (Value.str (Str.ofString "law_rt0053_01") 463)), (DictEntry.mk (PyData.keyHash P (Str.ofString "__doc__")) (Value.str (Str.ofString "__doc__") 166) Value.none), (DictEntry.mk (PyData.keyHash P (Str.ofString "__package__")) (Value.str (Str.ofString "__package__") 167) Value.none), (DictEntry.mk (PyData.keyHash P (Str.ofString "__loader__")) (Value.str (Str.ofString "__loader__") 168) (Value.builtin "__main__.__loader__#opaque")), (DictEntry.mk (PyData.keyHash P (Str.ofString "__spec__")) (Value.str (Str.ofString "__spec__") 169) Value.none), (DictEntry.mk (PyData.keyHash P (Str.ofString "__annotations__")) (Value.str (Str.ofString "__annotations__") 170) (Value.ref 6)), (DictEntry.mk (PyData.keyHash P (Str.ofString "__builtins__")) (Value.str (Str.ofString "__builtins__") 171) (Value.ref 4)), (DictEntry.mk (PyData.keyHash P (Str.ofString "__file__")) (Value.str (Str.ofString "__file__") 173) (Value.str (Str.ofString "/claim/cut.py") 172)), (DictEntry.mk (PyData.keyHash P (Str.ofString "__cached__")) (Value.str (Str.ofString "__cached__") 174) Value.none), (DictEntry.mk (PyData.keyHash P (Str.ofString "_wall")) (Value.str (Str.ofString "_wall") 193) (Value.ref 21)), (DictEntry.mk (PyData.keyHash P (Str.ofString "TOMLDecodeError")) (Value.str (Str.ofString "TOMLDecodeError") 213) (Value.ref 31)), (DictEntry.mk (PyData.keyHash P (Str.ofString "skip_until")) (Value.str (Str.ofString "skip_until") 225) (Value.ref 41)), (DictEntry.mk (PyData.keyHash P (Str.ofString "suffixed_err")) (Value.str (Str.ofString "suffixed_err") 235) (Value.ref 48)), (DictEntry.mk (PyData.keyHash P (Str.ofString "_plain_name")) (Value.str (Str.ofString "_plain_name") 246) (Value.ref 55)), (DictEntry.mk (PyData.keyHash P (Str.ofString "ABCMeta")) (Value.str (Str.ofString "ABCMeta") 272) (Value.ref 72)), (DictEntry.mk (PyData.keyHash P (Str.ofString "_ABCLike")) (Value.str (Str.ofString "_ABCLike") 315) (Value.ref 105)), (DictEntry.mk (PyData.keyHash P (Str.ofString "_abc_plain_meta")) (Value.str (Str.ofString "_abc_plain_meta") 322) (Value.ref 114)), (DictEntry.mk (PyData.keyHash P (Str.ofString "fspath")) (Value.str (Str.ofString "fspath") 334) (Value.ref 121)), (DictEntry.mk (PyData.keyHash P (Str.ofString "_check_arg_types")) (Value.str (Str.ofString "_check_arg_types") 347) (Value.ref 128)), (DictEntry.mk (PyData.keyHash P (Str.ofString "_get_sep")) (Value.str (Str.ofString "_get_sep") 356) (Value.ref 135)), (DictEntry.mk (PyData.keyHash P (Str.ofString "join")) (Value.str (Str.ofString "join") 367) (Value.ref 142)), (DictEntry.mk (PyData.keyHash P (Str.ofString "dirname")) (Value.str (Str.ofString "dirname") 377) (Value.ref 149)), (DictEntry.mk (PyData.keyHash P (Str.ofString "S_IFMT")) (Value.str (Str.ofString "S_IFMT") 386) (Value.ref 156)), (DictEntry.mk (PyData.keyHash P (Str.ofString "S_IFDIR")) (Value.str (Str.ofString "S_IFDIR") 388) (Value.int 16384 387)), (DictEntry.mk (PyData.keyHash P (Str.ofString "S_IFCHR")) (Value.str (Str.ofString "S_IFCHR") 390) (Value.int 8192 389)), (DictEntry.mk (PyData.keyHash P (Str.ofString "S_IFBLK")) (Value.str (Str.ofString "S_IFBLK") 392) (Value.int 24576 391)), (DictEntry.mk (PyData.keyHash P (Str.ofString "S_IFREG")) (Value.str (Str.ofString "S_IFREG") 394) (Value.int 32768 393)), (DictEntry.mk (PyData.keyHash P (Str.ofString "S_IFIFO")) (Value.str (Str.ofString "S_IFIFO") 396) (Value.int 4096 395)), (DictEntry.mk (PyData.keyHash P (Str.ofString "S_IFLNK")) (Value.str (Str.ofString "S_IFLNK") 398) (Value.int 40960 397)), (DictEntry.mk (PyData.keyHash P (Str.ofString "S_IFSOCK")) (Value.str (Str.ofString "S_IFSOCK") 400) (Value.int 49152 399)), (DictEntry.mk (PyData.keyHash P (Str.ofString "S_ISUID")) (Value.str (Str.ofString "S_ISUID") 402) (Value.int 2048 401)), (DictEntry.mk (PyData.keyHash P (Str.ofString "S_ISGID")) (Value.str (Str.ofString "S_ISGID") 404) (Value.int 1024 403)), (DictEntry.mk (PyData.keyHash P (Str.ofString "S_ISVTX")) (Value.str (Str.ofString "S_ISVTX") 406) (Value.int 512 405)), (DictEntry.mk (PyData.keyHash P (Str.ofString "S_IRUSR")) (Value.str (Str.ofString "S_IRUSR") 408) (Value.int 256 407)), (DictEntry.mk (PyData.keyHash P (Str.ofString "S_IWUSR")) (Value.str (Str.ofString "S_IWUSR") 410) (Value.int 128 409)), (DictEntry.mk (PyData.keyHash P (Str.ofString "S_IXUSR")) (Value.str (Str.ofString "S_IXUSR") 412) (Value.int 64 411)), (DictEntry.mk (PyData.keyHash P (Str.ofString "S_IRGRP")) (Value.str (Str.ofString "S_IRGRP") 414) (Value.int 32 413)), (DictEntry.mk (PyData.keyHash P (Str.ofString "S_IWGRP")) (Value.str (Str.ofString "S_IWGRP") 416) (Value.int 16 415)), (DictEntry.mk (PyData.keyHash P (Str.ofString "S_IXGRP")) (Value.str (Str.ofString "S_IXGRP") 418) (Value.int 8 417)), (DictEntry.mk (PyData.keyHash P (Str.ofString "S_IROTH")) (Value.str (Str.ofString "S_IROTH") 420) (Value.int 4 419)), (DictEntry.mk (PyData.keyHash P (Str.ofString "S_IWOTH")) (Value.str (Str.ofString "S_IWOTH") 422) (Value.int 2 421)), (DictEntry.mk (PyData.keyHash P (Str.ofString "S_IXOTH")) (Value.str (Str.ofString "S_IXOTH") 424) (Value.int 1 423)), (DictEntry.mk (PyData.keyHash P (Str.ofString "_filemode_table")) (Value.str (Str.ofString "_filemode_table") 450) (Value.ref 189)), (DictEntry.mk (PyData.keyHash P (Str.ofString "filemode")) (Value.str (Str.ofString "filemode") 462) (Value.ref 196)), (DictEntry.mk (PyData.keyHash P (Str.ofString "_law_signs")) (Value.str (Str.ofString "_law_signs") 475) (Value.ref 203)), (DictEntry.mk (PyData.keyHash P (Str.ofString "_law_free")) (Value.str (Str.ofString "_law_free") 484) (Value.ref 210)), (DictEntry.mk (PyData.keyHash P (Str.ofString "_law_served")) (Value.str (Str.ofString "_law_served") 490) (Value.ref 215)), (DictEntry.mk (PyData.keyHash P (Str.ofString "_law_told")) (Value.str (Str.ofString "_law_told") 507) (Value.ref 222)), (DictEntry.mk (PyData.keyHash P (Str.ofString "law")) (Value.str (Str.ofString "law") 513) (Value.ref 227))] 49) #[])) ::
  (nat_lit 15, (Obj.mk (Value.type "tuple") none (Data.seq #[] 0) #[])) ::
  (nat_lit 17, (Obj.mk (Value.type "tuple") none (Data.seq #[(Value.str (Str.ofString "k") 190)] 0) #[])) ::
  (nat_lit 18, (Obj.mk (Value.type "tuple") none (Data.seq #[] 0) #[])) ::
  (nat_lit 20, (Obj.mk (Value.type "code") none (Data.fields #[(Value.str (Str.ofString "_wall") 187), (Value.str (Str.ofString "_wall") 188), (Value.str (Str.ofString "/claim/cut.py") 189), (Value.int 1 0), (Value.int 1 0), (Value.int 0 0), (Value.int 0 0), (Value.int 3 0), (Value.ref 15), (Value.bool Bool.true), (Value.int 181 0), (Value.ref 16), Value.none, (Value.ref 17), (Value.ref 18), (Value.ref 19), (Value.int 191 0), (Value.int 1 0), (Value.str (Str.ofString "/claim/cut.py") 192)]) #[])) ::
  (nat_lit 22, (Obj.mk (Value.type "tuple") none (Data.seq #[(Value.type "ValueError")] 0) #[])) ::
  (nat_lit 29, (Obj.mk (Value.type "tuple") none (Data.seq #[] 0) #[])) ::
  (nat_lit 30, (Obj.mk (Value.type "dict") none (Data.dict #[(DictEntry.mk (PyData.keyHash P (Str.ofString "__module__")) (Value.str (Str.ofString "__module__") 203) (Value.str (Str.ofString "cpy313.tomllib._parser") 194)), (DictEntry.mk (PyData.keyHash P (Str.ofString "__firstlineno__")) (Value.str (Str.ofString "__firstlineno__") 207) (Value.int 5 206)), (DictEntry.mk (PyData.keyHash P (Str.ofString "__static_attributes__")) (Value.str (Str.ofString "__static_attributes__") 208) (Value.ref 29)), (DictEntry.mk (PyData.keyHash P (Str.ofString "__weakref__")) (Value.str (Str.ofString "__weakref__") 210) (Value.ref 32)), (DictEntry.mk (PyData.keyHash P (Str.ofString "__doc__")) (Value.str (Str.ofString "__doc__") 211) Value.none)] 3) #[])) ::
  (nat_lit 31, (Obj.mk (Value.type "type") none (Data.cls (PySem.ClassData.mk (Str.ofString "TOMLDecodeError") [(Value.type "ValueError")] [(Value.ref 31), (Value.type "ValueError"), (Value.type "Exception"), (Value.type "BaseException"), (Value.type "object")] 30 (Str.ofString "TOMLDecodeError") Bool.true [] [] Bool.false none Bool.false)) #[(some (Value.ref 22)), none, (some (Value.str (Str.ofString "TOMLDecodeError") 196)), (some (Value.str (Str.ofString "TOMLDecodeError") 204)), (some (Value.builtin "ValueError.__new__")), (some (Value.bool Bool.true))])) ::
  (nat_lit 32, (Obj.mk (Value.type "getset_descriptor") none (Data.fields #[(Value.str (Str.ofString "__weakref__") 209), (Value.ref 31), (Value.builtin "ExceptionGroup.__weakref__"), Value.none]) #[])) ::
  (nat_lit 35, (Obj.mk (Value.type "tuple") none (Data.seq #[] 0) #[])) ::
  (nat_lit 37, (Obj.mk (Value.type "tuple") none (Data.seq #[(Value.str (Str.ofString "src") 217), (Value.str (Str.ofString "pos") 218), (Value.str (Str.ofString "expect") 219), (Value.str (Str.ofString "error_on") 220), (Value.str (Str.ofString "error_on_eof") 221), (Value.str (Str.ofString "new_pos") 222)] 0) #[])) ::
  (nat_lit 38, (Obj.mk (Value.type "tuple") none (Data.seq #[] 0) #[])) ::
  (nat_lit 40, (Obj.mk (Value.type "code") none (Data.fields #[(Value.str (Str.ofString "skip_until") 214), (Value.str (Str.ofString "skip_until") 215), (Value.str (Str.ofString "/claim/cut.py") 216), (Value.int 7 0), (Value.int 3 0), (Value.int 0 0), (Value.int 2 0), (Value.int 3 0), (Value.ref 35), (Value.bool Bool.true), (Value.int 181 0), (Value.ref 36), Value.none, (Value.ref 37), (Value.ref 38), (Value.ref 39), (Value.int 223 0), (Value.int 7 0), (Value.str (Str.ofString "/claim/cut.py") 224)]) #[])) ::
  (nat_lit 41, (Obj.mk (Value.type "function") none (Data.func (FuncData.mk (Str.ofString "skip_until") (Str.ofString "skip_until") (stP (fnSt 3)) (FuncBody.stmts (stB (fnSt 3))) (stS (fnSt 3)) 3 [] Value.none Value.none Value.none (Value.str (Str.ofString "cpy313.tomllib._parser") 194) none (Value.ref 40) Value.none 0)) #[])) ::
  (nat_lit 42, (Obj.mk (Value.type "tuple") none (Data.seq #[] 0) #[])) ::
  (nat_lit 44, (Obj.mk (Value.type "tuple") none (Data.seq #[(Value.str (Str.ofString "src") 229), (Value.str (Str.ofString "pos") 230), (Value.str (Str.ofString "msg") 231), (Value.str (Str.ofString "coord_repr") 232)] 0) #[])) ::
  (nat_lit 45, (Obj.mk (Value.type "tuple") none (Data.seq #[] 0) #[])) ::
  (nat_lit 47, (Obj.mk (Value.type "code") none (Data.fields #[(Value.str (Str.ofString "suffixed_err") 226), (Value.str (Str.ofString "suffixed_err") 227), (Value.str (Str.ofString "/claim/cut.py") 228), (Value.int 19 0), (Value.int 3 0), (Value.int 0 0), (Value.int 0 0), (Value.int 3 0), (Value.ref 42), (Value.bool Bool.true), (Value.int 181 0), (Value.ref 43), Value.none, (Value.ref 44), (Value.ref 45), (Value.ref 46), (Value.int 233 0), (Value.int 19 0), (Value.str (Str.ofString "/claim/cut.py") 234)]) #[])) ::
  (nat_lit 48, (Obj.mk (Value.type "function") none (Data.func (FuncData.mk (Str.ofString "suffixed_err") (Str.ofString "suffixed_err") (stP (fnSt 4)) (FuncBody.stmts (stB (fnSt 4))) (stS (fnSt 4)) 3 [] Value.none Value.none Value.none (Value.str (Str.ofString "cpy313.tomllib._parser") 194) none (Value.ref 47) Value.none 0)) #[])) ::
  (nat_lit 49, (Obj.mk (Value.type "tuple") none (Data.seq #[] 0) #[])) ::
  (nat_lit 51, (Obj.mk (Value.type "tuple") none (Data.seq #[(Value.str (Str.ofString "x") 241), (Value.str (Str.ofString "what") 242), (Value.str (Str.ofString "kind") 243)] 0) #[])) ::
  (nat_lit 52, (Obj.mk (Value.type "tuple") none (Data.seq #[] 0) #[])) ::
  (nat_lit 54, (Obj.mk (Value.type "code") none (Data.fields #[(Value.str (Str.ofString "_plain_name") 238), (Value.str (Str.ofString "_plain_name") 239), (Value.str (Str.ofString "/claim/cut.py") 240), (Value.int 32 0), (Value.int 2 0), (Value.int 0 0), (Value.int 0 0), (Value.int 3 0), (Value.ref 49), (Value.bool Bool.true), (Value.int 181 0), (Value.ref 50), Value.none, (Value.ref 51), (Value.ref 52), (Value.ref 53), (Value.int 244 0), (Value.int 32 0), (Value.str (Str.ofString "/claim/cut.py") 245)]) #[])) ::
  (nat_lit 56, (Obj.mk (Value.type "tuple") none (Data.seq #[(Value.type "type")] 0) #[])) ::
  (nat_lit 63, (Obj.mk (Value.type "tuple") none (Data.seq #[] 0) #[])) ::
  (nat_lit 65, (Obj.mk (Value.type "tuple") none (Data.seq #[(Value.str (Str.ofString "cls") 264), (Value.str (Str.ofString "subclass") 265)] 0) #[])) ::
  (nat_lit 66, (Obj.mk (Value.type "tuple") none (Data.seq #[] 0) #[])) ::
  (nat_lit 68, (Obj.mk (Value.type "code") none (Data.fields #[(Value.str (Str.ofString "register") 261), (Value.str (Str.ofString "ABCMeta.register") 262), (Value.str (Str.ofString "/claim/cut.py") 263), (Value.int 40 0), (Value.int 2 0), (Value.int 0 0), (Value.int 0 0), (Value.int 3 0), (Value.ref 63), (Value.bool Bool.true), (Value.int 181 0), (Value.ref 64), Value.none, (Value.ref 65), (Value.ref 66), (Value.ref 67), (Value.int 266 0), (Value.int 40 0), (Value.str (Str.ofString "/claim/cut.py") 267)]) #[])) ::
  (nat_lit 70, (Obj.mk (Value.type "tuple") none (Data.seq #[] 0) #[])) ::
  (nat_lit 71, (Obj.mk (Value.type "dict") none (Data.dict #[(DictEntry.mk (PyData.keyHash P (Str.ofString "__module__")) (Value.str (Str.ofString "__module__") 256) (Value.str (Str.ofString "abc") 247)), (DictEntry.mk (PyData.keyHash P (Str.ofString "__firstlineno__")) (Value.str (Str.ofString "__firstlineno__") 260) (Value.int 38 259)), (DictEntry.mk (PyData.keyHash P (Str.ofString "register")) (Value.str (Str.ofString "register") 268) (Value.ref 69)), (DictEntry.mk (PyData.keyHash P (Str.ofString "__static_attributes__")) (Value.str (Str.ofString "__static_attributes__") 269) (Value.ref 70)), (DictEntry.mk (PyData.keyHash P (Str.ofString "__doc__")) (Value.str (Str.ofString "__doc__") 270) Value.none)] 2) #[])) ::
  (nat_lit 72, (Obj.mk (Value.type "type") none (Data.cls (PySem.ClassData.mk (Str.ofString "ABCMeta") [(Value.type "type")] [(Value.ref 72), (Value.type "type"), (Value.type "object")] 71 (Str.ofString "ABCMeta") Bool.true [] [(Value.ref 105)] Bool.false none Bool.false)) #[(some (Value.ref 56)), none, (some (Value.str (Str.ofString "ABCMeta") 249)), (some (Value.str (Str.ofString "ABCMeta") 257)), (some (Value.builtin "type.__new__")), (some (Value.bool Bool.true))])) ::
  (nat_lit 75, (Obj.mk (Value.type "tuple") none (Data.seq #[(Value.ref 72)] 0) #[])) ::
  (nat_lit 82, (Obj.mk (Value.type "tuple") none (Data.seq #[] 0) #[])) ::
  (nat_lit 84, (Obj.mk (Value.type "tuple") none (Data.seq #[(Value.str (Str.ofString "cls") 290), (Value.str (Str.ofString "instance") 291), (Value.str (Str.ofString "C") 292)] 0) #[])) ::
  (nat_lit 85, (Obj.mk (Value.type "tuple") none (Data.seq #[] 0) #[])) ::
  (nat_lit 87, (Obj.mk (Value.type "code") none (Data.fields #[(Value.str (Str.ofString "__instancecheck__") 287), (Value.str (Str.ofString "_ABCLike.__instancecheck__") 288), (Value.str (Str.ofString "/claim/cut.py") 289), (Value.int 45 0), (Value.int 2 0), (Value.int 0 0), (Value.int 0 0), (Value.int 3 0), (Value.ref 82), (Value.bool Bool.true), (Value.int 181 0), (Value.ref 83), Value.none, (Value.ref 84), (Value.ref 85), (Value.ref 86), (Value.int 293 0), (Value.int 45 0), (Value.str (Str.ofString "/claim/cut.py") 294)]) #[])) ::
  (nat_lit 89, (Obj.mk (Value.type "tuple") none (Data.seq #[] 0) #[])) ::
  (nat_lit 91, (Obj.mk (Value.type "tuple") none (Data.seq #[(Value.str (Str.ofString "cls") 299), (Value.str (Str.ofString "C") 300)] 0) #[])) ::
  (nat_lit 92, (Obj.mk (Value.type "tuple") none (Data.seq #[] 0) #[])) ::
  (nat_lit 94, (Obj.mk (Value.type "code") none (Data.fields #[(Value.str (Str.ofString "__subclasscheck__") 296), (Value.str (Str.ofString "_ABCLike.__subclasscheck__") 297), (Value.str (Str.ofString "/claim/cut.py") 298), (Value.int 51 0), (Value.int 2 0), (Value.int 0 0), (Value.int 0 0), (Value.int 3 0), (Value.ref 89), (Value.bool Bool.true), (Value.int 181 0), (Value.ref 90), Value.none, (Value.ref 91), (Value.ref 92), (Value.ref 93), (Value.int 301 0), (Value.int 51 0), (Value.str (Str.ofString "/claim/cut.py") 302)]) #[])) ::
  (nat_lit 96, (Obj.mk (Value.type "tuple") none (Data.seq #[] 0) #[])) ::
  (nat_lit 98, (Obj.mk (Value.type "tuple") none (Data.seq #[(Value.str (Str.ofString "cls") 307), (Value.str (Str.ofString "subclass") 308)] 0) #[])) ::
  (nat_lit 99, (Obj.mk (Value.type "tuple") none (Data.seq #[] 0) #[])) ::
  (nat_lit 101, (Obj.mk (Value.type "code") none (Data.fields #[(Value.str (Str.ofString "register") 304), (Value.str (Str.ofString "_ABCLike.register") 305), (Value.str (Str.ofString "/claim/cut.py") 306), (Value.int 56 0), (Value.int 2 0), (Value.int 0 0), (Value.int 0 0), (Value.int 3 0), (Value.ref 96), (Value.bool Bool.true), (Value.int 181 0), (Value.ref 97), Value.none, (Value.ref 98), (Value.ref 99), (Value.ref 100), (Value.int 309 0), (Value.int 56 0), (Value.str (Str.ofString "/claim/cut.py") 310)]) #[])) ::
  (nat_lit 103, (Obj.mk (Value.type "tuple") none (Data.seq #[] 0) #[])) ::
  (nat_lit 104, (Obj.mk (Value.type "dict") none (Data.dict #[(DictEntry.mk (PyData.keyHash P (Str.ofString "__module__")) (Value.str (Str.ofString "__module__") 282) (Value.str (Str.ofString "collections.abc") 273)), (DictEntry.mk (PyData.keyHash P (Str.ofString "__firstlineno__")) (Value.str (Str.ofString "__firstlineno__") 286) (Value.int 43 285)), (DictEntry.mk (PyData.keyHash P (Str.ofString "__instancecheck__")) (Value.str (Str.ofString "__instancecheck__") 295) (Value.ref 88)), (DictEntry.mk (PyData.keyHash P (Str.ofString "__subclasscheck__")) (Value.str (Str.ofString "__subclasscheck__") 303) (Value.ref 95)), (DictEntry.mk (PyData.keyHash P (Str.ofString "register")) (Value.str (Str.ofString "register") 311) (Value.ref 102)), (DictEntry.mk (PyData.keyHash P (Str.ofString "__static_attributes__")) (Value.str (Str.ofString "__static_attributes__") 312) (Value.ref 103)), (DictEntry.mk (PyData.keyHash P (Str.ofString "__doc__")) (Value.str (Str.ofString "__doc__") 313) Value.none)] 2) #[])) ::
  (nat_lit 105, (Obj.mk (Value.type "type") none (Data.cls (PySem.ClassData.mk (Str.ofString "_ABCLike") [(Value.ref 72)] [(Value.ref 105), (Value.ref 72), (Value.type "type"), (Value.type "object")] 104 (Str.ofString "_ABCLike") Bool.true [] [] Bool.false none Bool.false)) #[(some (Value.ref 75)), none, (some (Value.str (Str.ofString "_ABCLike") 275)), (some (Value.str (Str.ofString "_ABCLike") 283)), (some (Value.builtin "type.__new__")), (some (Value.bool Bool.true))])) ::
  (nat_lit 108, (Obj.mk (Value.type "tuple") none (Data.seq #[] 0) #[])) ::
  (nat_lit 110, (Obj.mk (Value.type "tuple") none (Data.seq #[(Value.str (Str.ofString "C") 319)] 0) #[])) ::
  (nat_lit 111, (Obj.mk (Value.type "tuple") none (Data.seq #[] 0) #[])) ::
  (nat_lit 113, (Obj.mk (Value.type "code") none (Data.fields #[(Value.str (Str.ofString "_abc_plain_meta") 316), (Value.str (Str.ofString "_abc_plain_meta") 317), (Value.str (Str.ofString "/claim/cut.py") 318), (Value.int 58 0), (Value.int 1 0), (Value.int 0 0), (Value.int 0 0), (Value.int 3 0), (Value.ref 108), (Value.bool Bool.true), (Value.int 181 0), (Value.ref 109), Value.none, (Value.ref 110), (Value.ref 111), (Value.ref 112), (Value.int 320 0), (Value.int 58 0), (Value.str (Str.ofString "/claim/cut.py") 321)]) #[])) ::
  (nat_lit 115, (Obj.mk (Value.type "tuple") none (Data.seq #[] 0) #[])) ::
  (nat_lit 117, (Obj.mk (Value.type "tuple") none (Data.seq #[(Value.str (Str.ofString "path") 328), (Value.str (Str.ofString "kind") 329), (Value.str (Str.ofString "hook") 330), (Value.str (Str.ofString "given") 331)] 0) #[])) ::
  (nat_lit 118, (Obj.mk (Value.type "tuple") none (Data.seq #[] 0) #[])) ::
  (nat_lit 120, (Obj.mk (Value.type "code") none (Data.fields #[(Value.str (Str.ofString "fspath") 325), (Value.str (Str.ofString "fspath") 326), (Value.str (Str.ofString "/claim/cut.py") 327), (Value.int 62 0), (Value.int 1 0), (Value.int 0 0), (Value.int 0 0), (Value.int 3 0), (Value.ref 115), (Value.bool Bool.true), (Value.int 181 0), (Value.ref 116), Value.none, (Value.ref 117), (Value.ref 118), (Value.ref 119), (Value.int 332 0), (Value.int 62 0), (Value.str (Str.ofString "/claim/cut.py") 333)]) #[])) ::
  (nat_lit 121, (Obj.mk (Value.type "function") none (Data.func (FuncData.mk (Str.ofString "fspath") (Str.ofString "fspath") (stP (fnSt 13)) (FuncBody.stmts (stB (fnSt 13))) (stS (fnSt 13)) 3 [] Value.none Value.none Value.none (Value.str (Str.ofString "os") 323) none (Value.ref 120) Value.none 0)) #[])) ::
  (nat_lit 122, (Obj.mk (Value.type "tuple") none (Data.seq #[] 0) #[])) ::
  (nat_lit 124, (Obj.mk (Value.type "tuple") none (Data.seq #[(Value.str (Str.ofString "funcname") 340), (Value.str (Str.ofString "args") 341), (Value.str (Str.ofString "hasstr") 342), (Value.str (Str.ofString "hasbytes") 343), (Value.str (Str.ofString "s") 344)] 0) #[])) ::
  (nat_lit 125, (Obj.mk (Value.type "tuple") none (Data.seq #[] 0) #[])) ::
  (nat_lit 127, (Obj.mk (Value.type "code") none (Data.fields #[(Value.str (Str.ofString "_check_arg_types") 337), (Value.str (Str.ofString "_check_arg_types") 338), (Value.str (Str.ofString "/claim/cut.py") 339), (Value.int 79 0), (Value.int 1 0), (Value.int 0 0), (Value.int 0 0), (Value.int 7 0), (Value.ref 122), (Value.bool Bool.true), (Value.int 181 0), (Value.ref 123), Value.none, (Value.ref 124), (Value.ref 125), (Value.ref 126), (Value.int 345 0), (Value.int 79 0), (Value.str (Str.ofString "/claim/cut.py") 346)]) #[])) ::
  (nat_lit 129, (Obj.mk (Value.type "tuple") none (Data.seq #[] 0) #[])) ::
  (nat_lit 131, (Obj.mk (Value.type "tuple") none (Data.seq #[(Value.str (Str.ofString "path") 353)] 0) #[])) ::
  (nat_lit 132, (Obj.mk (Value.type "tuple") none (Data.seq #[] 0) #[])) ::
  (nat_lit 134, (Obj.mk (Value.type "code") none (Data.fields #[(Value.str (Str.ofString "_get_sep") 350), (Value.str (Str.ofString "_get_sep") 351), (Value.str (Str.ofString "/claim/cut.py") 352), (Value.int 91 0), (Value.int 1 0), (Value.int 0 0), (Value.int 0 0), (Value.int 3 0), (Value.ref 129), (Value.bool Bool.true), (Value.int 181 0), (Value.ref 130), Value.none, (Value.ref 131), (Value.ref 132), (Value.ref 133), (Value.int 354 0), (Value.int 91 0), (Value.str (Str.ofString "/claim/cut.py") 355)]) #[])) ::
  (nat_lit 135, (Obj.mk (Value.type "function") none (Data.func (FuncData.mk (Str.ofString "_get_sep") (Str.ofString "_get_sep") (stP (fnSt 17)) (FuncBody.stmts (stB (fnSt 17))) (stS (fnSt 17)) 3 [] Value.none Value.none Value.none (Value.str (Str.ofString "cpy313.posixpath") 348) none (Value.ref 134) Value.none 0)) #[])) ::
  (nat_lit 136, (Obj.mk (Value.type "tuple") none (Data.seq #[] 0) #[])) ::
  (nat_lit 138, (Obj.mk (Value.type "tuple") none (Data.seq #[(Value.str (Str.ofString "a") 360), (Value.str (Str.ofString "p") 361), (Value.str (Str.ofString "sep") 362), (Value.str (Str.ofString "path") 363), (Value.str (Str.ofString "b") 364)] 0) #[])) ::
  (nat_lit 139, (Obj.mk (Value.type "tuple") none (Data.seq #[] 0) #[])) ::
  (nat_lit 141, (Obj.mk (Value.type "code") none (Data.fields #[(Value.str (Str.ofString "join") 357), (Value.str (Str.ofString "join") 358), (Value.str (Str.ofString "/claim/cut.py") 359), (Value.int 96 0), (Value.int 1 0), (Value.int 0 0), (Value.int 0 0), (Value.int 7 0), (Value.ref 136), (Value.bool Bool.true), (Value.int 181 0), (Value.ref 137), Value.none, (Value.ref 138), (Value.ref 139), (Value.ref 140), (Value.int 365 0), (Value.int 96 0), (Value.str (Str.ofString "/claim/cut.py") 366)]) #[])) ::
  (nat_lit 142, (Obj.mk (Value.type "function") none (Data.func (FuncData.mk (Str.ofString "join") (Str.ofString "join") (stP (fnSt 18)) (FuncBody.stmts (stB (fnSt 18))) (stS (fnSt 18)) 3 [] Value.none Value.none Value.none (Value.str (Str.ofString "cpy313.posixpath") 348) none (Value.ref 141) Value.none 0)) #[])) ::
  (nat_lit 143, (Obj.mk (Value.type "tuple") none (Data.seq #[] 0) #[])) ::
  (nat_lit 145, (Obj.mk (Value.type "tuple") none (Data.seq #[(Value.str (Str.ofString "p") 371), (Value.str (Str.ofString "sep") 372), (Value.str (Str.ofString "i") 373), (Value.str (Str.ofString "head") 374)] 0) #[])) ::
  (nat_lit 146, (Obj.mk (Value.type "tuple") none (Data.seq #[] 0) #[])) ::
  (nat_lit 148, (Obj.mk (Value.type "code") none (Data.fields #[(Value.str (Str.ofString "dirname") 368), (Value.str (Str.ofString "dirname") 369), (Value.str (Str.ofString "/claim/cut.py") 370), (Value.int 113 0), (Value.int 1 0), (Value.int 0 0), (Value.int 0 0), (Value.int 3 0), (Value.ref 143), (Value.bool Bool.true), (Value.int 181 0), (Value.ref 144), Value.none, (Value.ref 145), (Value.ref 146), (Value.ref 147), (Value.int 375 0), (Value.int 113 0), (Value.str (Str.ofString "/claim/cut.py") 376)]) #[])) ::
  (nat_lit 149, (Obj.mk (Value.type "function") none (Data.func (FuncData.mk (Str.ofString "dirname") (Str.ofString "dirname") (stP (fnSt 19)) (FuncBody.stmts (stB (fnSt 19))) (stS (fnSt 19)) 3 [] Value.none Value.none Value.none (Value.str (Str.ofString "cpy313.posixpath") 348) none (Value.ref 148) Value.none 0)) #[])) ::
  (nat_lit 150, (Obj.mk (Value.type "tuple") none (Data.seq #[] 0) #[])) ::
  (nat_lit 152, (Obj.mk (Value.type "tuple") none (Data.seq #[(Value.str (Str.ofString "mode") 383)] 0) #[])) ::
  (nat_lit 153, (Obj.mk (Value.type "tuple") none (Data.seq #[] 0) #[])) ::
  (nat_lit 155, (Obj.mk (Value.type "code") none (Data.fields #[(Value.str (Str.ofString "S_IFMT") 380), (Value.str (Str.ofString "S_IFMT") 381), (Value.str (Str.ofString "/claim/cut.py") 382), (Value.int 122 0), (Value.int 1 0), (Value.int 0 0), (Value.int 0 0), (Value.int 3 0), (Value.ref 150), (Value.bool Bool.true), (Value.int 181 0), (Value.ref 151), Value.none, (Value.ref 152), (Value.ref 153), (Value.ref 154), (Value.int 384 0), (Value.int 122 0), (Value.str (Str.ofString "/claim/cut.py") 385)]) #[])) ::
  (nat_lit 156, (Obj.mk (Value.type "function") none (Data.func (FuncData.mk (Str.ofString "S_IFMT") (Str.ofString "S_IFMT") (stP (fnSt 21)) (FuncBody.stmts (stB (fnSt 21))) (stS (fnSt 21)) 3 [] Value.none Value.none Value.none (Value.str (Str.ofString "cpy313.stat") 378) none (Value.ref 155) Value.none 0)) #[])) ::
  (nat_lit 157, (Obj.mk (Value.type "tuple") none (Data.seq #[(Value.int 40960 397), (Value.str (Str.ofString "l") 425)] 0) #[])) ::
  (nat_lit 158, (Obj.mk (Value.type "tuple") none (Data.seq #[(Value.int 49152 399), (Value.str (Str.ofString "s") 426)] 0) #[])) ::
  (nat_lit 159, (Obj.mk (Value.type "tuple") none (Data.seq #[(Value.int 32768 393), (Value.str (Str.ofString "-") 427)] 0) #[])) ::
  (nat_lit 160, (Obj.mk (Value.type "tuple") none (Data.seq #[(Value.int 24576 391), (Value.str (Str.ofString "b") 428)] 0) #[])) ::
  (nat_lit 161, (Obj.mk (Value.type "tuple") none (Data.seq #[(Value.int 16384 387), (Value.str (Str.ofString "d") 429)] 0) #[])) ::
  (nat_lit 162, (Obj.mk (Value.type "tuple") none (Data.seq #[(Value.int 8192 389), (Value.str (Str.ofString "c") 430)] 0) #[])) ::
  (nat_lit 163, (Obj.mk (Value.type "tuple") none (Data.seq #[(Value.int 4096 395), (Value.str (Str.ofString "p") 431)] 0) #[])) ::
  (nat_lit 164, (Obj.mk (Value.type "tuple") none (Data.seq #[(Value.ref 157), (Value.ref 158), (Value.ref 159), (Value.ref 160), (Value.ref 161), (Value.ref 162), (Value.ref 163)] 0) #[])) ::
  (nat_lit 165, (Obj.mk (Value.type "tuple") none (Data.seq #[(Value.int 256 407), (Value.str (Str.ofString "r") 432)] 0) #[])) ::
  (nat_lit 166, (Obj.mk (Value.type "tuple") none (Data.seq #[(Value.ref 165)] 0) #[])) ::
  (nat_lit 167, (Obj.mk (Value.type "tuple") none (Data.seq #[(Value.int 128 409), (Value.str (Str.ofString "w") 433)] 0) #[])) ::
  (nat_lit 168, (Obj.mk (Value.type "tuple") none (Data.seq #[(Value.ref 167)] 0) #[])) ::
  (nat_lit 169, (Obj.mk (Value.type "tuple") none (Data.seq #[(Value.int 2112 434), (Value.str (Str.ofString "s") 435)] 0) #[])) ::
  (nat_lit 170, (Obj.mk (Value.type "tuple") none (Data.seq #[(Value.int 2048 401), (Value.str (Str.ofString "S") 436)] 0) #[])) ::
  (nat_lit 171, (Obj.mk (Value.type "tuple") none (Data.seq #[(Value.int 64 411), (Value.str (Str.ofString "x") 437)] 0) #[])) ::
  (nat_lit 172, (Obj.mk (Value.type "tuple") none (Data.seq #[(Value.ref 169), (Value.ref 170), (Value.ref 171)] 0) #[])) ::
  (nat_lit 173, (Obj.mk (Value.type "tuple") none (Data.seq #[(Value.int 32 413), (Value.str (Str.ofString "r") 438)] 0) #[])) ::
  (nat_lit 174, (Obj.mk (Value.type "tuple") none (Data.seq #[(Value.ref 173)] 0) #[])) ::
  (nat_lit 175, (Obj.mk (Value.type "tuple") none (Data.seq #[(Value.int 16 415), (Value.str (Str.ofString "w") 439)] 0) #[])) ::
  (nat_lit 176, (Obj.mk (Value.type "tuple") none (Data.seq #[(Value.ref 175)] 0) #[])) ::
  (nat_lit 177, (Obj.mk (Value.type "tuple") none (Data.seq #[(Value.int 1032 440), (Value.str (Str.ofString "s") 441)] 0) #[])) ::
  (nat_lit 178, (Obj.mk (Value.type "tuple") none (Data.seq #[(Value.int 1024 403), (Value.str (Str.ofString "S") 442)] 0) #[])) ::
  (nat_lit 179, (Obj.mk (Value.type "tuple") none (Data.seq #[(Value.int 8 417), (Value.str (Str.ofString "x") 443)] 0) #[])) ::
  (nat_lit 180, (Obj.mk (Value.type "tuple") none (Data.seq #[(Value.ref 177), (Value.ref 178), (Value.ref 179)] 0) #[])) ::
  (nat_lit 181, (Obj.mk (Value.type "tuple") none (Data.seq #[(Value.int 4 419), (Value.str (Str.ofString "r") 444)] 0) #[])) ::
  (nat_lit 182, (Obj.mk (Value.type "tuple") none (Data.seq #[(Value.ref 181)] 0) #[])) ::
  (nat_lit 183, (Obj.mk (Value.type "tuple") none (Data.seq #[(Value.int 2 421), (Value.str (Str.ofString "w") 445)] 0) #[])) ::
  (nat_lit 184, (Obj.mk (Value.type "tuple") none (Data.seq #[(Value.ref 183)] 0) #[])) ::
  (nat_lit 185, (Obj.mk (Value.type "tuple") none (Data.seq #[(Value.int 513 446), (Value.str (Str.ofString "t") 447)] 0) #[])) ::
  (nat_lit 186, (Obj.mk (Value.type "tuple") none (Data.seq #[(Value.int 512 405), (Value.str (Str.ofString "T") 448)] 0) #[])) ::
  (nat_lit 187, (Obj.mk (Value.type "tuple") none (Data.seq #[(Value.int 1 423), (Value.str (Str.ofString "x") 449)] 0) #[])) ::
  (nat_lit 188, (Obj.mk (Value.type "tuple") none (Data.seq #[(Value.ref 185), (Value.ref 186), (Value.ref 187)] 0) #[])) ::
  (nat_lit 189, (Obj.mk (Value.type "tuple") none (Data.seq #[(Value.ref 164), (Value.ref 166), (Value.ref 168), (Value.ref 172), (Value.ref 174), (Value.ref 176), (Value.ref 180), (Value.ref 182), (Value.ref 184), (Value.ref 188)] 0) #[])) ::
  (nat_lit 190, (Obj.mk (Value.type "tuple") none (Data.seq #[] 0) #[])) ::
  (nat_lit 192, (Obj.mk (Value.type "tuple") none (Data.seq #[(Value.str (Str.ofString "mode") 454), (Value.str (Str.ofString "perm") 455), (Value.str (Str.ofString "index") 456), (Value.str (Str.ofString "table") 457), (Value.str (Str.ofString "bit") 458), (Value.str (Str.ofString "char") 459)] 0) #[])) ::
  (nat_lit 193, (Obj.mk (Value.type "tuple") none (Data.seq #[] 0) #[])) ::
  (nat_lit 195, (Obj.mk (Value.type "code") none (Data.fields #[(Value.str (Str.ofString "filemode") 451), (Value.str (Str.ofString "filemode") 452), (Value.str (Str.ofString "/claim/cut.py") 453), (Value.int 144 0), (Value.int 1 0), (Value.int 0 0), (Value.int 0 0), (Value.int 3 0), (Value.ref 190), (Value.bool Bool.true), (Value.int 181 0), (Value.ref 191), Value.none, (Value.ref 192), (Value.ref 193), (Value.ref 194), (Value.int 460 0), (Value.int 144 0), (Value.str (Str.ofString "/claim/cut.py") 461)]) #[])) ::
  (nat_lit 196, (Obj.mk (Value.type "function") none (Data.func (FuncData.mk (Str.ofString "filemode") (Str.ofString "filemode") (stP (fnSt 42)) (FuncBody.stmts (stB (fnSt 42))) (stS (fnSt 42)) 3 [] Value.none Value.none Value.none (Value.str (Str.ofString "cpy313.stat") 378) none (Value.ref 195) Value.none 0)) #[])) ::
  (nat_lit 197, (Obj.mk (Value.type "tuple") none (Data.seq #[] 0) #[])) ::
  (nat_lit 199, (Obj.mk (Value.type "tuple") none (Data.seq #[(Value.str (Str.ofString "mode") 468), (Value.str (Str.ofString "signs") 469), (Value.str (Str.ofString "k") 470), (Value.str (Str.ofString "figure") 471), (Value.str (Str.ofString "two") 472)] 0) #[])) ::
  (nat_lit 200, (Obj.mk (Value.type "tuple") none (Data.seq #[] 0) #[])) ::
  (nat_lit 202, (Obj.mk (Value.type "code") none (Data.fields #[(Value.str (Str.ofString "_law_signs") 465), (Value.str (Str.ofString "_law_signs") 466), (Value.str (Str.ofString "/claim/cut.py") 467), (Value.int 162 0), (Value.int 1 0), (Value.int 0 0), (Value.int 0 0), (Value.int 3 0), (Value.ref 197), (Value.bool Bool.true), (Value.int 181 0), (Value.ref 198), Value.none, (Value.ref 199), (Value.ref 200), (Value.ref 201), (Value.int 473 0), (Value.int 162 0), (Value.str (Str.ofString "/claim/cut.py") 474)]) #[])) ::
  (nat_lit 203, (Obj.mk (Value.type "function") none (Data.func (FuncData.mk (Str.ofString "_law_signs") (Str.ofString "_law_signs") (stP (fnSt 44)) (FuncBody.stmts (stB (fnSt 44))) (stS (fnSt 44)) 3 [] Value.none Value.none Value.none (Value.str (Str.ofString "law_rt0053_01") 463) none (Value.ref 202) Value.none 0)) #[])) ::
  (nat_lit 204, (Obj.mk (Value.type "tuple") none (Data.seq #[] 0) #[])) ::
  (nat_lit 206, (Obj.mk (Value.type "tuple") none (Data.seq #[(Value.str (Str.ofString "text") 479), (Value.str (Str.ofString "start") 480), (Value.str (Str.ofString "pos") 481)] 0) #[])) ::
  (nat_lit 207, (Obj.mk (Value.type "tuple") none (Data.seq #[] 0) #[])) ::
  (nat_lit 209, (Obj.mk (Value.type "code") none (Data.fields #[(Value.str (Str.ofString "_law_free") 476), (Value.str (Str.ofString "_law_free") 477), (Value.str (Str.ofString "/claim/cut.py") 478), (Value.int 173 0), (Value.int 3 0), (Value.int 0 0), (Value.int 0 0), (Value.int 3 0), (Value.ref 204), (Value.bool Bool.true), (Value.int 181 0), (Value.ref 205), Value.none, (Value.ref 206), (Value.ref 207), (Value.ref 208), (Value.int 482 0), (Value.int 173 0), (Value.str (Str.ofString "/claim/cut.py") 483)]) #[])) ::
  (nat_lit 210, (Obj.mk (Value.type "function") none (Data.func (FuncData.mk (Str.ofString "_law_free") (Str.ofString "_law_free") (stP (fnSt 45)) (FuncBody.stmts (stB (fnSt 45))) (stS (fnSt 45)) 3 [] Value.none Value.none Value.none (Value.str (Str.ofString "law_rt0053_01") 463) none (Value.ref 209) Value.none 0)) #[])) ::
  (nat_lit 211, (Obj.mk (Value.type "tuple") none (Data.seq #[] 0) #[])) ::
  (nat_lit 214, (Obj.mk (Value.type "code") none (Data.fields #[(Value.str (Str.ofString "_law_served") 485), (Value.str (Str.ofString "_law_served") 486), (Value.str (Str.ofString "/claim/cut.py") 487), (Value.int 178 0), (Value.int 3 0), (Value.int 0 0), (Value.int 0 0), (Value.int 3 0), (Value.ref 211), (Value.bool Bool.true), (Value.int 181 0), (Value.ref 212), Value.none, Value.none, Value.none, (Value.ref 213), (Value.int 488 0), (Value.int 178 0), (Value.str (Str.ofString "/claim/cut.py") 489)]) #[])) ::
  (nat_lit 215, (Obj.mk (Value.type "function") none (Data.func (FuncData.mk (Str.ofString "_law_served") (Str.ofString "_law_served") (stP (fnSt 46)) (FuncBody.stmts (stB (fnSt 46))) (stS (fnSt 46)) 3 [] Value.none Value.none Value.none (Value.str (Str.ofString "law_rt0053_01") 463) none (Value.ref 214) Value.none 0)) #[])) ::
  (nat_lit 216, (Obj.mk (Value.type "tuple") none (Data.seq #[] 0) #[])) ::
  (nat_lit 218, (Obj.mk (Value.type "tuple") none (Data.seq #[(Value.str (Str.ofString "paths") 494), (Value.str (Str.ofString "modes") 495), (Value.str (Str.ofString "wishes") 496), (Value.str (Str.ofString "come") 497), (Value.str (Str.ofString "passed") 498), (Value.str (Str.ofString "text") 499), (Value.str (Str.ofString "k") 500), (Value.str (Str.ofString "mode") 501), (Value.str (Str.ofString "wait") 502), (Value.str (Str.ofString "p") 503), (Value.str (Str.ofString "marked") 504)] 0) #[])) ::
  (nat_lit 219, (Obj.mk (Value.type "tuple") none (Data.seq #[] 0) #[])) ::
  (nat_lit 221, (Obj.mk (Value.type "code") none (Data.fields #[(Value.str (Str.ofString "_law_told") 491), (Value.str (Str.ofString "_law_told") 492), (Value.str (Str.ofString "/claim/cut.py") 493), (Value.int 202 0), (Value.int 3 0), (Value.int 0 0), (Value.int 0 0), (Value.int 3 0), (Value.ref 216), (Value.bool Bool.true), (Value.int 181 0), (Value.ref 217), Value.none, (Value.ref 218), (Value.ref 219), (Value.ref 220), (Value.int 505 0), (Value.int 202 0), (Value.str (Str.ofString "/claim/cut.py") 506)]) #[])) ::
  (nat_lit 222, (Obj.mk (Value.type "function") none (Data.func (FuncData.mk (Str.ofString "_law_told") (Str.ofString "_law_told") (stP (fnSt 47)) (FuncBody.stmts (stB (fnSt 47))) (stS (fnSt 47)) 3 [] Value.none Value.none Value.none (Value.str (Str.ofString "law_rt0053_01") 463) none (Value.ref 221) Value.none 0)) #[])) ::
  (nat_lit 223, (Obj.mk (Value.type "tuple") none (Data.seq #[] 0) #[])) ::
  (nat_lit 226, (Obj.mk (Value.type "code") none (Data.fields #[(Value.str (Str.ofString "law") 508), (Value.str (Str.ofString "law") 509), (Value.str (Str.ofString "/claim/cut.py") 510), (Value.int 219 0), (Value.int 1 0), (Value.int 0 0), (Value.int 0 0), (Value.int 3 0), (Value.ref 223), (Value.bool Bool.true), (Value.int 181 0), (Value.ref 224), Value.none, Value.none, Value.none, (Value.ref 225), (Value.int 511 0), (Value.int 219 0), (Value.str (Str.ofString "/claim/cut.py") 512)]) #[])) ::
  (nat_lit 227, (Obj.mk (Value.type "function") none (Data.func (FuncData.mk (Str.ofString "law") (Str.ofString "law") (stP (fnSt 48)) (FuncBody.stmts (stB (fnSt 48))) (stS (fnSt 48)) 3 [] Value.none Value.none Value.none (Value.str (Str.ofString "law_rt0053_01") 463) none (Value.ref 226) Value.none 0)) #[])) :: []
noncomputable def asK : List Addr := [2, 3, 15, 17, 18, 20, 22, 29, 30, 31, 32, 35, 37, 38, 40, 41, 42, 44, 45, 47, 48, 49, 51, 52, 54, 56, 63, 65, 66, 68, 70, 71, 72, 75, 82, 84, 85, 87, 89, 91, 92, 94, 96, 98, 99, 101, 103, 104, 105, 108, 110, 111, 113, 115, 117, 118, 120, 121, 122, 124, 125, 127, 129, 131, 132, 134, 135, 136, 138, 139, 141, 142, 143, 145, 146, 148, 149, 150, 152, 153, 155, 156, 157, 158, 159, 160, 161, 162, 163, 164, 165, 166, 167, 168, 169, 170, 171, 172, 173, 174, 175, 176, 177, 178, 179, 180, 181, 182, 183, 184, 185, 186, 187, 188, 189, 190, 192, 193, 195, 196, 197, 199, 200, 202, 203, 204, 206, 207, 209, 210, 211, 214, 215, 216, 218, 219, 221, 222, 223, 226, 227]
noncomputable def vw : Program := PySem.W.view pg [0, 2, 3, 4, 6, 8, 10, 11, 13, 15, 17, 18, 19, 21, 22, 23, 24, 25, 26, 27, 28, 29, 30, 31, 32, 33, 34, 35, 36, 37, 38, 39, 40, 41, 42, 44, 45, 46, 47, 48]
noncomputable def lvT : List (Str × WData) := [(Str.ofString "_filemode_table", WData.tuple [WData.tuple [WData.tuple [WData.int 40960, WData.str { cps := #[108] }], WData.tuple [WData.int 49152, WData.str { cps := #[115] }], WData.tuple [WData.int 32768, WData.str { cps := #[45] }], WData.tuple [WData.int 24576, WData.str { cps := #[98] }], WData.tuple [WData.int 16384, WData.str { cps := #[100] }], WData.tuple [WData.int 8192, WData.str { cps := #[99] }], WData.tuple [WData.int 4096, WData.str { cps := #[112] }]], WData.tuple [WData.tuple [WData.int 256, WData.str { cps := #[114] }]], WData.tuple [WData.tuple [WData.int 128, WData.str { cps := #[119] }]], WData.tuple [WData.tuple [WData.int 2112, WData.str { cps := #[115] }], WData.tuple [WData.int 2048, WData.str { cps := #[83] }], WData.tuple [WData.int 64, WData.str { cps := #[120] }]], WData.tuple [WData.tuple [WData.int 32, WData.str { cps := #[114] }]], WData.tuple [WData.tuple [WData.int 16, WData.str { cps := #[119] }]], WData.tuple [WData.tuple [WData.int 1032, WData.str { cps := #[115] }], WData.tuple [WData.int 1024, WData.str { cps := #[83] }], WData.tuple [WData.int 8, WData.str { cps := #[120] }]], WData.tuple [WData.tuple [WData.int 4, WData.str { cps := #[114] }]], WData.tuple [WData.tuple [WData.int 2, WData.str { cps := #[119] }]], WData.tuple [WData.tuple [WData.int 513, WData.str { cps := #[116] }], WData.tuple [WData.int 512, WData.str { cps := #[84] }], WData.tuple [WData.int 1, WData.str { cps := #[120] }]]])]
noncomputable abbrev hkK : Hook := kmHook Kp asK (fun _ => by kernel_rfl) [43]
theorem boot_run : ∀ w : World, (fencedOpening treeTable pg w 3424).map (fun s => (s.heap, s.gens, s.drawn, s.toks)) = some (boot_heap w.params, Array.mk [], boot_drawn, boot_toks) :=
  boot_open (by kernel_rfl) (by kernel_rfl) (fun s => by kernel_rfl)
/-- the text's top, run once by the kernel -/
theorem top_run (w : World) (os : OsState) : (topFrom treeTable pg w 3424 ⟨boot_heap w.params, Array.mk [], boot_drawn, boot_toks, os⟩).map (fun s => (openSeen vw [Str.ofString "_filemode_table"] (importedModules pg.main.body) (fun s => xlAt vw lvT s && recOk (RowW.records PySem.Challenge.rw_rt0053_01.row.toRowW) s) true s, hkK.obs s)) = some (openGood vw [Str.ofString "_filemode_table"], hkK.val w) := by
  unfold topFrom
  first | (rewrite [PySem.W.Fast.te14082659384304107361, PySem.W.Fast.te14364793385576792824, PySem.W.Fast.te4187177175401517315]; kernel_rfl) | kernel_rfl
theorem left_run : LeftO pg vw [Str.ofString "_filemode_table"] (fun s => xlAt vw lvT s && recOk (RowW.records PySem.Challenge.rw_rt0053_01.row.toRowW) s) hkK.obs hkK.val 3424 := fun w => by
  obtain ⟨⟨h, gs, d, k, os⟩, e, e'⟩ := Option.map_eq_some_iff.mp (boot_run w)
  obtain ⟨rfl, rfl, rfl, rfl⟩ : h = boot_heap w.params ∧ gs = Array.mk [] ∧ d = boot_drawn ∧ k = boot_toks := by simpa using e'
  unfold openEnds
  rw [e, Option.bind_some]
  exact top_run w os
/-- a def's parts read off the program -/
theorem ho_lit {K : Frag} {f : Addr} {name qual : Str} {params params' : Arguments} {body body' : List Stmt} {scope scope' : Scope} {dV kV doc pm cdv ct oc : Value} {an od : Option Addr} {osl : Array (Option Value)}
    (h : K.lookup f = some ⟨oc, od, .func (fnOf name qual params body scope dV kV doc pm an cdv ct), osl⟩) (eP : params = params') (eB : body = body') (eS : scope = scope') :
    K.lookup f = some ⟨oc, od, .func (fnOf name qual params' body' scope' dV kV doc pm an cdv ct), osl⟩ := by
  subst eP eB eS
  exact h
theorem def_lit {q : Program} {n name : Str} {params params' : Arguments} {body body' : List Stmt} {scope scope' : Scope} {kwd : List (Str × Expr)} {pos : Pos}
    (h : defOf q n = some (⟨name, params, body, scope, pos⟩, kwd)) (eP : params = params') (eB : body = body') (eS : scope = scope') : defOf q n = some (⟨name, params', body', scope', pos⟩, kwd) := by
  subst eP eB eS
  exact h
end Mine
end
section
open PySem PySem.W PyProof.Rows
namespace Mine
noncomputable abbrev LS : List Str := (looseW vw [Str.ofString "_filemode_table"] ++ List.map (fun x => x.name) (recsOf vw) ++
        List.map (fun x => x.fst) (litsOf vw) ++
      List.map (fun x => x.name) (clssOf vw (looseW vw [Str.ofString "_filemode_table"])))

/-- a call of the def at f: what it asks, what it gives -/
noncomputable def Spec (w : World) (mean : ExcName → Option Value) (mg mb : Str → Option Value) (dn un₀ : Nat) (f : Addr) (news : List (Addr × Obj)) (vs : List Value) (Post : Value → List (Addr × Obj) → Prop) : Prop :=
  ∀ (dp un : Nat) (gd : Option (List Code)) (cn : Str) (cs : Scope) (a : Addr) (ccd : Value) (cl : List (Str × Addr)) (outer : List Env) (A₀ : Around) (base h₀ : Heap) (L : Addr) (m : Str → Option Value) (s : Shared) (Q E : Value → Shared → Prop),
    Below A₀ base outer h₀ → Fr h₀ L s.heap m → (Kp w.params).In h₀ → News h₀ L s.heap news → Top topProg LS mean mg mb h₀ → cs.kind = .function →
    dp + dn < recursionLimit → un + un₀ < cLine →
    (∀ v news' h' tk', Post v news' → Fr h₀ L h' m → News h₀ L h' news' → Q v { s with heap := h', toks := tk' }) →
    wpAny (model PySem.Challenge.rw_rt0053_01.row.prog w) (ktrTop dp un gd cn cs L a ccd cl outer) (call (.ref f) vs) Q E s
end Mine
end
section
open PySem PySem.W PyProof.Rows PySem.Calls
namespace Mine
section
variable {M : Model} {A₀ : Around} {E : Value → Shared → Prop} {s : Shared} {base g h h₁ : Heap} {outer : List Env} {L a e : Addr} {m : Str → Option Value} {name : Str} {scope : Scope} {cd : Value} {news : List (Addr × Obj)} {KF : Frag}
  {p : Program} {loose : List Str} {mean : ExcName → Option Value} {mg mb : Str → Option Value} {oe : Obj} {vs : Array Value} {Q : Unit → Shared → Prop}

theorem kx_slots (K : Below A₀ base outer g) (F : Fr g L h m) (N : News g L h news) (XB : KF.In base) (TB : Top p loose mean mg mb base) (D : KtsDicts (outer.filterMap (·.frame)) g)
    (S : Heap.SlotsOnly ((envOf name scope L a cd :: outer).filterMap (·.frame)) h h₁) :
    ∃ g₁, KtsTurn (outer.filterMap (·.frame)) g g₁ ∧ Fr g₁ L h₁ m ∧ News g₁ L h₁ news ∧ Below A₀ base outer g₁ ∧ KF.In g₁ ∧ Top p loose mean mg mb g₁ ∧ KtsDicts (outer.filterMap (·.frame)) g₁ := by
  obtain ⟨g₁, T₁, F₁, K₁⟩ := kts_ground (name := name) (scope := scope) (a := a) (cd := cd) (B := hideAll h ((envOf name scope L a cd :: outer).filterMap (·.frame))) (h₅ := h₁) K F
    (fun b o e nm => hideAll_get _ e nm) (fun b o e => (S.2.1 b fun hm => by rw [hideAll_none _ hm] at e; cases e).trans (of_hideAll _ e)) (fun b o e _ => S.2.2 b o e)
  refine ⟨g₁, T₁, F₁, fun q hq => ?_, K₁, XB.keeps K₁.stays, TB.keeps K₁.stays, D.turn T₁⟩
  obtain ⟨n1, n2, n3⟩ := N q hq
  refine ⟨(S.2.1 q.1 fun hm => ?_).trans n1, n2, T₁.none_ _ n3⟩
  rcases kts_mem hm with z | z
  · exact n2 z
  · obtain ⟨_, o, ho, _⟩ := K.frames.mem z
    rw [n3] at ho
    cases ho

theorem kx_upd {o : Obj} {f : Obj → Obj} (F : Fr g L h m) (N : News g L h ((e, o) :: news)) (hf : (f o).isFreed = false) (hne : ∀ q ∈ news, q.1 ≠ e) : Fr g L (h.update e f) m ∧ News g L (h.update e f) ((e, f o) :: news) := by
  obtain ⟨n1, n2, n3⟩ := N _ (.head _)
  have oth : ∀ b, b ≠ e → (h.update e f).get? b = h.get? b := fun b hb => Heap.get?_update_other _ _ (Ne.symm hb)
  refine ⟨⟨?_, fun b o' q => (oth b fun z => ?_).trans (F.keep b o' q), F.above⟩, fun q hq => ?_⟩
  · obtain ⟨oL, es, ep, hL, r⟩ := F.ns
    exact ⟨oL, es, ep, (oth L (Ne.symm n2)).trans hL, r⟩
  · rw [z] at q
    rw [n3] at q
    cases q
  · rcases List.mem_cons.mp hq with rfl | hq
    · exact ⟨Heap.get?_update_self _ n1 hf, n2, n3⟩
    · obtain ⟨m1, m2, m3⟩ := N q (.tail _ hq)
      exact ⟨(oth _ (hne q hq)).trans m1, m2, m3⟩

/-- the frame's look at an exception that no frame has seen -/
theorem kx_note (K : Below A₀ base outer g) (F : Fr g L s.heap m) (N : News g L s.heap ((e, oe) :: news)) (XB : KF.In base) (TB : Top p loose mean mg mb base) (D : KtsDicts (outer.filterMap (·.frame)) g)
    (hd : oe.data = .fields vs) (h1 : vs[1]? = some .none) (hne : ∀ q ∈ news, q.1 ≠ e) (hk : scope.kind = .function)
    (k : ∀ h' g' T oT ts, KtsTurn (outer.filterMap (·.frame)) g g' → Fr g' L h' m → News g' L h' ((e, oe.mapFields (·.setIfInBounds 1 (.ref T))) :: (T, oT) :: news) → Below A₀ base outer g' → KF.In g' → Top p loose mean mg mb g' →
      KtsDicts (outer.filterMap (·.frame)) g' → oT.data = .fields ts → 3 < ts.size → T ≠ e → (∀ q ∈ news, q.1 ≠ T) → Q () { s with heap := h' }) :
    wpAny M (A₀.deeper (envOf name scope L a cd)) (noteFrame (.ref e) (envOf name scope L a cd)) Q E s := by
  have K' := K.push (name := name) (a := a) (cd := cd) F hk
  obtain ⟨n1, n2, n3⟩ := N _ (.head _)
  unfold noteFrame
  simp only [show (envOf name scope L a cd).frame = some L from rfl]
  refine wpAny_bind (wpAny_field n1 hd h1 ?_)
  rw [if_neg (by decide)]
  refine wpAny_bind (wpAny_frameOf_fun (Around.frames_deeper K.stack) K'.frames rfl fun h₁ S => ?_)
  obtain ⟨g₁, T₁, F₁, N₁, K₁, X₁, P₁, D₁⟩ := kx_slots K F N XB TB D S
  refine wpAny_bind (wpAny_entryPlaceOf fun pl hpl => ?_)
  unfold EntryCells.newEntry newFields
  refine wpAny_bind (wpAny_newObj_type ?_ (hpl.sizeOk5 _ _ _ _ _))
  have F₂ := F₁.push { cls := .type "traceback", dict := none, data := .fields ([Value.none, .ref L, .none, rawInt L, .none] ++ (if pl.isEmpty then List.replicate 6 Value.none else pl)).toArray }
  have N₂ := News.push F₁ N₁ { cls := .type "traceback", dict := none, data := .fields ([Value.none, .ref L, .none, rawInt L, .none] ++ (if pl.isEmpty then List.replicate 6 Value.none else pl)).toArray }
  have hT : ∀ q ∈ (e, oe) :: news, q.1 ≠ h₁.objs.size := fun q hq => Nat.ne_of_lt (Heap.lt_size (N₁ q hq).1)
  have N₃ : News g₁ L (h₁.push { cls := .type "traceback", dict := none, data := .fields ([Value.none, .ref L, .none, rawInt L, .none] ++ (if pl.isEmpty then List.replicate 6 Value.none else pl)).toArray })
      ((e, oe) :: (h₁.objs.size, { cls := .type "traceback", dict := none, data := .fields ([Value.none, .ref L, .none, rawInt L, .none] ++ (if pl.isEmpty then List.replicate 6 Value.none else pl)).toArray }) :: news) := fun q hq => N₂ q (by
    rcases List.mem_cons.mp hq with rfl | hq
    · exact .tail _ (.head _)
    · rcases List.mem_cons.mp hq with rfl | hq
      · exact .head _
      · exact .tail _ (.tail _ hq))
  refine wpAny_setField (N₃ _ (.head _)).1 hd (Array.getElem?_eq_some_iff.mp h1).1 ?_
  obtain ⟨F₄, N₄⟩ := kx_upd (f := Obj.mapFields (·.setIfInBounds 1 (.ref h₁.objs.size))) F₂ N₃ (Obj.isFreed_of_fields (Obj.data_mapFields hd _)) (fun q hq => by
    rcases List.mem_cons.mp hq with rfl | hq
    · exact Ne.symm (hT _ (.head _))
    · exact hne q hq)
  exact k _ g₁ h₁.objs.size _ _ T₁ F₄ N₄ K₁ X₁ P₁ D₁ rfl (by simp only [List.size_toArray, List.length_append, List.length_cons, List.length_nil]; omega) (Ne.symm (hT _ (.head _))) (fun q hq => hT q (.tail _ hq))

/-- .. and lets it lie: no frame's flight -/
theorem kx_land {T : Addr} {oT : Obj} {ts : Array Value} {A : Around} (F : Fr g L s.heap m) (N : News g L s.heap ((e, oe) :: (T, oT) :: news)) (hd : oe.data = .fields vs) (h1 : vs[1]? = some (.ref T)) (hdT : oT.data = .fields ts) (hz : 3 < ts.size)
    (hTe : T ≠ e) (hne : ∀ q ∈ news, q.1 ≠ T)
    (k : ∀ h' oT' ts', Fr g L h' m → News g L h' ((e, oe) :: (T, oT') :: news) → oT'.data = .fields ts' → 3 < ts'.size → Q () { s with heap := h' }) : wpAny M A (setFlight (.ref e) none) Q E s := by
  refine wpAny_setFlight_none (N _ (.head _)).1 hd h1 (N _ (.tail _ (.head _))).1 hdT hz ?_
  have N' : News g L s.heap ((T, oT) :: (e, oe) :: news) := fun q hq => N q (by
    rcases List.mem_cons.mp hq with rfl | hq
    · exact .tail _ (.head _)
    · rcases List.mem_cons.mp hq with rfl | hq
      · exact .head _
      · exact .tail _ (.tail _ hq))
  obtain ⟨F₄, N₄⟩ := kx_upd (f := Obj.mapFields (·.setIfInBounds 3 .none)) F N' (Obj.isFreed_of_fields (Obj.data_mapFields hdT _)) (fun q hq => by
    rcases List.mem_cons.mp hq with rfl | hq
    · exact Ne.symm hTe
    · exact hne q hq)
  refine k _ _ (ts.setIfInBounds 3 .none) F₄ (fun q hq => N₄ q ?_) (Obj.data_mapFields hdT (·.setIfInBounds 3 .none)) (by simpa using hz)
  rcases List.mem_cons.mp hq with rfl | hq
  · exact .tail _ (.head _)
  · rcases List.mem_cons.mp hq with rfl | hq
    · exact .head _
    · exact .tail _ (.tail _ hq)
end
section
variable {prog : Program} {w : World} {A₀ : Around} {E : Value → Shared → Prop} {s' : Shared} {base g h : Heap} {outer : List Env} {L a e : Addr} {m : Str → Option Value} {name : Str} {scope : Scope} {cd : Value} {news : List (Addr × Obj)} {KF : Frag}
  {p : Program} {loose : List Str} {mean : ExcName → Option Value} {mg mb : Str → Option Value} {b₀ : Stmt} {suite : List Stmt} {pos np : Pos} {Q : Flow → Shared → Prop}

theorem sub_ve : isSubtype (.type "ValueError") (.type "ValueError") = pure true := by rw [isSubtype_type]; kernel_rfl
/-- a built-in's ValueError is caught in the very frame, some frames deep -/
theorem kx_catch (K : Below A₀ base outer g) (F : Fr g L h m) (N : News g L h news) (hx : Heap.NewExc h s'.heap e "ValueError") (XB : KF.In base) (TB : Top p loose mean mg mb base) (D : KtsDicts (outer.filterMap (·.frame)) g)
    (ex : nsIn KF mainGlobals "ValueError" = some none) (hk : scope.kind = .function) (hxk : (envOf name scope L a cd).kindOf "ValueError" = some .globalImplicit)
    (k : ∀ h' g' oe T oT vs, KtsTurn (outer.filterMap (·.frame)) g g' → Fr g' L h' m → News g' L h' ((e, oe) :: (T, oT) :: news) → Below A₀ base outer g' → KF.In g' → Top p loose mean mg mb g' → KtsDicts (outer.filterMap (·.frame)) g' →
      oe.data = .fields vs → vs[2]? = some .none → T ≠ e → (∀ q ∈ news, q.1 ≠ T) → (∀ q ∈ news, q.1 ≠ e) →
      wpAny (model prog w) ((A₀.deeper (envOf name scope L a cd)).mark (some (.ref e))) (execs (b₀ :: suite) (envOf name scope L a cd)) Q E { s' with heap := h' })
    (hE : PassesOwnAt (model prog w) ((A₀.deeper (envOf name scope L a cd)).mark (some (.ref e))) (A₀.deeper (envOf name scope L a cd)) (envOf name scope L a cd) E) :
    wpAny (model prog w) (A₀.deeper (envOf name scope L a cd)) (noteFrame (.ref e) (envOf name scope L a cd))
      (fun _ s₂ => wpAny (model prog w) (A₀.deeper (envOf name scope L a cd)) (setFlight (.ref e) none) (fun _ s₃ =>
        wpAny (model prog w) (A₀.deeper (envOf name scope L a cd)) (handleBy (.ref e) (envOf name scope L a cd) [.ExceptHandler (some (.Name "ValueError" np)) none (b₀ :: suite) pos]) Q E s₃) E s₂) E s' := by
  obtain ⟨ob, t, he, hcls, hd⟩ := hx.there
  have hLs : L < h.objs.size := F.ns.lt
  have F₀ : Fr g L s'.heap m := grow_fr F hx.keeps
  have hne : ∀ q ∈ news, q.1 ≠ e := fun q hq z => by
    have := (N q hq).1
    rw [z, hx.new] at this
    cases this
  have N₀ : News g L s'.heap ((e, ob) :: news) := fun q hq => by
    rcases List.mem_cons.mp hq with rfl | hq
    · refine ⟨he, fun z => ?_, ?_⟩
      · obtain ⟨oL, _, _, hL, _⟩ := F.ns
        have := hx.new
        rw [show e = L from z, hL] at this
        cases this
      · cases q : g.get? e with
        | none => rfl
        | some o => have := F.keep _ _ q; rw [hx.new] at this; cases this
    · exact grow_news N hx.keeps q hq
  refine kx_note K F₀ N₀ XB TB D hd rfl hne hk fun h₁ g₁ T oT ts T₁ F₁ N₁ K₁ X₁ P₁ D₁ hdT hz hTe hnT => ?_
  have hd₁ := Obj.data_mapFields hd (·.setIfInBounds 1 (.ref T))
  refine kx_land F₁ N₁ hd₁ (by simp) hdT hz hTe hnT fun h₂ oT₂ ts₂ F₂ N₂ hdT₂ hz₂ => ?_
  refine wpAny_handleBy_builtin (X := "ValueError") (T := "ValueError") (b := true) PySem.F.isExc_ValueError PySem.F.notTuple_ValueError sub_ve ?_
  refine name_B F₂ X₁ (topRead_of P₁) ex PyProof.Rows.Boot.«ValueError» (by decide) ?_ hk hxk (by decide)
  refine ⟨rfl, ⟨_, (N₂ _ (.head _)).1, (Obj.cls_mapFields _ _).trans hcls⟩, ?_⟩
  rw [if_pos rfl]
  refine kx_land F₂ N₂ hd₁ (by simp) hdT₂ hz₂ hTe hnT fun h₃ oT₃ ts₃ F₃ N₃ hdT₃ hz₃ => ?_
  exact wpAny_passesOwnAt hE (k h₃ g₁ _ T oT₃ _ T₁ F₃ N₃ K₁ X₁ P₁ D₁ hd₁ (by simp) hTe hnT hne)
end
end Mine
end
section
open PySem PySem.W PyProof.Rows PySem.Calls
namespace Mine
noncomputable abbrev excO (C t : Addr) : Obj := { cls := .ref C, data := .fields #[.ref t, .none, .none, .none, .bool false, .none] }
noncomputable abbrev excF (C t e : Addr) : Obj := { cls := .ref C, data := .fields #[.ref t, .none, .ref e, .none, .bool true, .none] }
section
variable {prog : Program} {w : World} {A A₀ : Around} {E : Value → Shared → Prop} {s : Shared} {base g h h₀ : Heap} {outer : List Env} {L a e C : Addr} {m : Str → Option Value} {name : Str} {scope : Scope} {cd : Value} {news : List (Addr × Obj)}
  {mg : Str → Option Value} {x : Str} {env : Env} {pos : Pos}

theorem kx_new {newId initId B : String} {bm : List Value} {v : Value} {Q : Value → Shared → Prop} (F : Fr h₀ L s.heap m) (N : News h₀ L s.heap news) (O : OwnCls x C bm newId mg h₀) (FB : ExcBaseFacts B newId initId bm)
    (k : ∀ e t h', Fr h₀ L h' m → News h₀ L h' ((e, excO C t) :: (t, { cls := .type "tuple", data := .seq #[v] }) :: news) → e ≠ t → (∀ q ∈ news, q.1 ≠ e) → (∀ q ∈ news, q.1 ≠ t) → Q (.ref e) { s with heap := h' }) :
    wpAny (model prog w) A (call (.ref C) [v]) Q E s := by
  obtain ⟨tl, N', nm, q, bs, hdct, sn, sub, ab, col, dd, k0, k1, k2, k3, k5, mN, hC, hN, hni, T⟩ := O.obj
  obtain ⟨hp, gg, d, tk, os⟩ := s
  refine wpAny_call_exc_subT FB (T.keeps F.keep) (F.keep _ _ hC) (hN.keeps F.keep) hni (fun h' e hm => ?_) (by rw [sizeLine_eq]; exact Nat.le_of_ble_eq_true rfl)
  obtain ⟨t, he, htn, ht⟩ := hm.there
  have fresh1 : ∀ b, hp.get? b = none → b ≠ L := fun b hb z => by
    obtain ⟨oL, _, _, hL, _⟩ := F.ns
    rw [z] at hb
    rw [show hp.get? L = some oL from hL] at hb
    cases hb
  have fresh2 : ∀ b, hp.get? b = none → h₀.get? b = none := fun b hb => by
    cases hq : h₀.get? b with
    | none => rfl
    | some o => have := F.keep _ _ hq; rw [hb] at this; cases this
  have fresh : ∀ b, hp.get? b = none → b ≠ L ∧ h₀.get? b = none := fun b hb => ⟨fresh1 b hb, fresh2 b hb⟩
  have off : ∀ b, hp.get? b = none → ∀ q ∈ news, q.1 ≠ b := fun b hb q hq z => by
    have := (N q hq).1
    rw [z, hb] at this
    cases this
  refine k e t h' (grow_fr F hm.keeps) (fun q hq => ?_) (fun z => ?_) (off e hm.new) (off t htn)
  · rcases List.mem_cons.mp hq with rfl | hq
    · exact ⟨he, fresh e hm.new⟩
    · rcases List.mem_cons.mp hq with rfl | hq
      · exact ⟨ht, fresh t htn⟩
      · exact grow_news N hm.keeps q hq
  · rw [z, ht] at he
    cases he

/-- what a raise of a made exception asks behind its expression -/
noncomputable def RaiseQ (C : Addr) (h₀ : Heap) (E : Value → Shared → Prop) (v : Value) (s : Shared) : Prop :=
  ∃ e t, v = .ref e ∧ (∀ b o, h₀.get? b = some o → s.heap.get? b = some o) ∧ s.heap.get? e = some (excO C t) ∧ E (.ref e) s
theorem kx_raise {newId initId B : String} {bm : List Value} {X : Expr} {Q : Flow → Shared → Prop} (O : OwnCls x C bm newId mg h₀) (FB : ExcBaseFacts B newId initId bm) (hh : A.handled = none)
    (h : wpAny (model prog w) A (eval X env) (RaiseQ C h₀ E) E s) : wpAny (model prog w) A (exec (.Raise (some X) none pos) env) Q E s := by
  obtain ⟨tl, N', nm, q, bs, hdct, sn, sub, ab, col, dd, k0, k1, k2, k3, k5, mN, hC, hN, hni, T⟩ := O.obj
  rw [arm_exec_Raise]
  refine wpAny_bind (wpAny_standAt (wpAny_raiseStmt_made_sub (C := C) (nm := nm) (q := q) (N := N') (bs := bs) (bm := tl) (hdct := hdct) (sn := sn) (sub := sub) (ab := ab) (col := col) (dd := dd) (k0 := k0) (k1 := k1) (k2 := k2) (k3 := k3) (k5 := k5) (newId := newId) (T.hasType FB.hasBase) hh ?_))
  refine wpAny_bind (wpAny_mono h (fun v s₁ h₁ => ?_) fun _ _ x => x)
  obtain ⟨e, t, rfl, hk, he, hE⟩ := h₁
  exact wpAny_bind (wpAny_standAt (wpAny_pure ⟨e, t, rfl, hk _ _ hC, he, hE⟩))

/-- the same, «from None», while e₁ is handled -/
noncomputable def RaiseF (C : Addr) (e₁ : Addr) (base : Heap) (E : Value → Shared → Prop) (v : Value) (s : Shared) : Prop :=
  ∃ g L m e t o₁ vs₁ rest, v = .ref e ∧ (∀ b o, base.get? b = some o → g.get? b = some o) ∧ Fr g L s.heap m ∧ News g L s.heap ((e, excO C t) :: rest) ∧ (∀ q ∈ rest, q.1 ≠ e) ∧ (e₁, o₁) ∈ rest ∧ o₁.data = .fields vs₁ ∧ vs₁[2]? = some .none ∧
    ∀ h', Fr g L h' m → News g L h' ((e, excF C t e₁) :: rest) → E (.ref e) { s with heap := h' }
theorem plain_unchain : plainId "proto.unchain" = true := by decide +kernel
theorem entry_unchain : entryFor table "proto.unchain" = some Builtin.«proto.unchain» := entryFor_of_tree (by kernel_rfl)
theorem kx_unchain {e e₁ : Addr} {o₁ : Obj} {vs₁ : Array Value} {Q : Value → Shared → Prop} (h1 : s.heap.get? e₁ = some o₁) (hd1 : o₁.data = .fields vs₁) (hv1 : vs₁[2]? = some .none) (h : ∀ v, Q v s) :
    wpAny (model prog w) A (runValue (.builtin "proto.unchain" ⟨[.ref e, .ref e₁, .ref e₁, .bool false], []⟩)) Q E s := by
  refine wpAny_runValue (codeAny_builtin entry_unchain ?_)
  unfold Builtin.«proto.unchain»
  dsimp only
  refine wpAny_bind (wpAny_field h1 hd1 hv1 ?_)
  rw [if_pos (by rfl)]
  exact wpAny_pure (h _)
theorem kx_raiseFrom {newId initId B : String} {bm : List Value} {X : Expr} {kk : Nat} {cpos : Pos} {e₁ : Addr} {Q : Flow → Shared → Prop} (O : OwnCls x C bm newId mg h₀) (FB : ExcBaseFacts B newId initId bm) (hh : A.handled = some (.ref e₁))
    (h : wpAny (model prog w) A (eval X env) (RaiseF C e₁ h₀ E) E s) : wpAny (model prog w) A (exec (.Raise (some X) (some (.Constant .none kk cpos)) pos) env) Q E s := by
  obtain ⟨tl, N', nm, q, bs, hdct, sn, sub, ab, col, dd, k0, k1, k2, k3, k5, mN, hC, hN, hni, T⟩ := O.obj
  have hcB : (Value.ref C :: tl).contains (.type "BaseException") = true := by rw [List.contains_cons, T.hasType FB.hasBase, Bool.or_true]
  rw [arm_exec_Raise]
  refine wpAny_bind (wpAny_standAt ?_)
  unfold raiseStmt
  refine wpAny_bind (wpAny_bind (wpAny_mono h (fun v s₁ h₁ => ?_) fun _ _ x => x))
  obtain ⟨g, L, m, e, t, o₁, vs₁, rest, rfl, hst, F, N, hne, hm1, hd1, hv1, hE⟩ := h₁
  replace hC := hst _ _ hC
  refine wpAny_bind (wpAny_standAt (wpAny_pure ?_))
  have he := (N _ (.head _)).1
  have hC₁ := F.keep _ _ hC
  obtain ⟨hp, gg, d, tk, os⟩ := s₁
  simp only [evalOpt, Option.map]
  repeat (first | with_reducible refine wpAny_loadPart_at he ?_ | with_reducible refine wpAny_loadPart_at hC₁ ?_ | (with_reducible refine wpAny_isSubtype_exc hC₁ ?_; rw [hcB]) | wp_step)
  obtain ⟨F₃, N₃⟩ := kx_upd (f := Obj.mapFields fun x => x.setIfInBounds 3 Value.none) F N rfl hne
  obtain ⟨F₄, N₄⟩ := kx_upd (f := Obj.mapFields fun x => x.setIfInBounds 4 (Value.bool true)) F₃ N₃ rfl hne
  have hC₄ := F₄.keep _ _ hC
  have he₄ := (N₄ _ (.head _)).1
  refine wpAny_loadPart hC₄ (wpAny_pure ?_)
  rw [if_pos (by rfl)]
  refine wpAny_pure ?_
  unfold setFlight
  refine wpAny_bind (wpAny_bind (wpAny_field he₄ rfl (x := .none) rfl ?_))
  rw [if_neg (by decide)]
  refine wpAny_pure ?_
  unfold raiseNew
  refine wpAny_bind (wpAny_handled ?_)
  rw [hh]
  have hne₁ : e₁ ≠ e := hne _ hm1
  have hb : (Value.ref e₁ != Value.ref e) = true := by simpa using hne₁
  dsimp only
  rw [if_pos hb]
  refine wpAny_bind (wpAny_holding (kx_unchain (N₄ _ (.tail _ hm1)).1 hd1 hv1 fun v => ?_))
  obtain ⟨F₅, N₅⟩ := kx_upd (f := Obj.mapFields fun x => x.setIfInBounds 2 (Value.ref e₁)) F₄ N₄ rfl hne
  show wpAny _ _ (setField (.ref e) 2 (.ref e₁) >>= fun _ => throw (Value.ref e)) _ _ _
  refine wpAny_bind (wpAny_setField he₄ rfl (by simp) ?_)
  exact wpAny_throw (hE _ F₅ N₅)
end
section
variable {M : Model} {A : Around} {E : Value → Shared → Prop} {s' : Shared} {base g : Heap} {outer : List Env} {L a e : Addr} {m : Str → Option Value} {name : Str} {scope : Scope} {cd : Value} {Q : Unit → Shared → Prop} {news : List (Addr × Obj)} {oe : Obj} {vs : Array Value} {a0 : Value}
/-- a made exception of the ledger's own leaves its frame -/
theorem kx_leave (K : Below A base outer g) (F : Fr g L s'.heap m) (N : News g L s'.heap ((e, oe) :: news)) (hne : ∀ q ∈ news, q.1 ≠ e) (hd : oe.data = .fields vs) (h1 : vs[1]? = some .none) (h0 : vs[0]? = some a0)
    (hQ : ∀ h', RaisedSN base g outer e oe.cls news h' → g.UpToSlots h' → Q () { s' with heap := h' }) (hk : scope.kind = .function) :
    wpAny M (A.deeper (envOf name scope L a cd)) (leaving (envOf name scope L a cd) (.ref e)) Q E s' := by
  have K' := K.push (name := name) (a := a) (cd := cd) F hk
  obtain ⟨n1, n2, n3⟩ := N _ (.head _)
  have hin : ∀ env ∈ (envOf name scope L a cd :: outer), ∀ b, env.frame = some b → b ∈ e :: (envOf name scope L a cd :: outer).filterMap (·.frame) := fun env he b hb => .tail _ (List.mem_filterMap.mpr ⟨env, he, hb⟩)
  have hbe : base.get? e = none := fresh_of_stays K.stays n3
  have st : base.StaysIn (hideAll s'.heap (e :: (envOf name scope L a cd :: outer).filterMap (·.frame))) := fun b o q => hideAll_get _ (K'.stays b o q) fun hm => by
    rcases List.mem_cons.mp hm with z | hm
    · rw [z, hbe] at q; cases q
    · rw [(K'.frames.mem hm).1] at q; cases q
  have sg : ∀ b o, g.get? b = some o → b ∉ outer.filterMap (·.frame) → (hideAll s'.heap (e :: (envOf name scope L a cd :: outer).filterMap (·.frame))).get? b = some o := fun b o q nm => hideAll_get _ (F.keep b o q) fun hm => by
    rcases List.mem_cons.mp hm with z | hm
    · rw [z] at q
      rw [n3] at q
      cases q
    · rcases kts_mem hm with z | z
      · rw [z, kts_self F] at q
        cases q
      · exact nm z
  have hl : ∀ q ∈ news, (hideAll s'.heap (e :: (envOf name scope L a cd :: outer).filterMap (·.frame))).get? q.1 = some q.2 ∧ g.get? q.1 = none ∧ base.get? q.1 = none := fun q hq => by
    obtain ⟨m1, m2, m3⟩ := N q (.tail _ hq)
    refine ⟨hideAll_get _ m1 fun hm => ?_, m3, fresh_of_stays K.stays m3⟩
    rcases List.mem_cons.mp hm with z | hm
    · exact hne q hq z
    · rcases kts_mem hm with z | z
      · exact m2 z
      · obtain ⟨_, o, ho, _⟩ := K.frames.mem z
        rw [m3] at ho
        cases ho
  refine wpAny_leaving_firstW (a0 := a0) K'.stack (funFrames_hide K'.frames hin) rfl n1 (fun b o hb => of_hideAll _ hb) (hideAll_none _ (.head _)) hd h1 h0 fun h' hL => ?_
  obtain ⟨k1, ⟨_, _, k2⟩, k3, k4⟩ := hL
  exact hQ h' ⟨_, a0, st, sg, hl, k1, hideAll_none _ (.head _), k2, k3⟩ ((Heap.UpToSlots.of_keeps F.keep).trans k4)
end
end Mine
end
section
open PySem PySem.W PyProof.Rows PySem.Calls
namespace Mine
section
variable {prog : Program} {w : World} {A₀ A : Around} {s : Shared} {base h₀ : Heap} {cenv : Env} {outer : List Env} {L : Addr} {m : Str → Option Value} {news rest : List (Addr × Obj)} {K : Frag} {p : Program} {loose : List Str} {mean : ExcName → Option Value} {mg mb : Str → Option Value}
    {R : Result → Shared → Prop} {name qual : Str} {params : Arguments} {body : List Stmt} {scope : Scope} {dV kV doc pm cdv ct oc : Value} {an od : Option Addr} {osl : Array (Option Value)} {f : Addr} {args : Args} {binds : List (Str × Value)}

/-- a def with a try, called from any frame; the rest of the ledger stands in the callee's ground -/
theorem kx_def (hcf : cenv.frame = some L) (hck : cenv.scope.kind = .function) (B : Below A₀ base outer h₀) (F : Fr h₀ L s.heap m) (X₀ : K.In h₀) (N₀ : News h₀ L s.heap (news ++ rest)) (hnr : ∀ p ∈ news, ∀ q ∈ rest, q.1 ≠ p.1) (T : Top p loose mean mg mb h₀) (XB : K.In base) (TB : Top p loose mean mg mb base)
    (D : KtsDicts (outer.filterMap (·.frame)) h₀) (hA : A.frames = some (cenv :: outer))
    (ho : K.lookup f = some ⟨oc, od, .func (fnOf name qual params body scope dV kV doc pm an cdv ct), osl⟩) (hcd : codeIn K cdv qual = true) (hroom : A.depth < recursionLimit)
    (hbind : BindsTo s (fnOf name qual params body scope dV kV doc pm an cdv ct) args binds) (hloc : ∀ y ∈ binds, scope.names.lookup y.1 = some .local)
    (h : ∀ g L' h₁, (∀ q ∈ rest, g.get? q.1 = some q.2) → Fr h₀ L g m → Fr g L' h₁ (fun y => binds.reverse.lookup y) → News g L' h₁ news → Below A base (cenv :: outer) g → K.In g → Top p loose mean mg mb g → KtsDicts ((cenv :: outer).filterMap (·.frame)) g →
      wpAny (model prog w) (A.deeper (envOf qual scope L' f cdv)) (execs body (envOf qual scope L' f cdv))
        (fun fl s' => LeaveS ((cenv :: outer).filterMap (·.frame)) A₀ base outer K p loose mean mg mb h₀ h₀ L m g (fun r s₁ => News h₀ L s₁.heap rest → R r s₁) (match fl with | .ret v => v | _ => .none) s')
        (fun e s' => wpAny (model prog w) (A.deeper (envOf qual scope L' f cdv)) (leaving (envOf qual scope L' f cdv) e) (fun _ s'' => R (.error e) s'') (fun e' s'' => R (.error e') s'') s')
        { s with heap := h₁, toks := s.toks + binds.length })
    (hco : scope.isCoroutine = false) (hgen : scope.isGenerator = false) (hk : scope.kind = .function)
    (hcell : ∀ x ∈ scope.names, x.2 ≠ .cell) : codeAny (model prog w) A (.call (.ref f) args) R s := by
  have X := X₀.keeps F.keep
  have N : News h₀ L s.heap news := fun p hp => N₀ p (List.mem_append_left _ hp)
  have NR : News h₀ L s.heap rest := fun p hp => N₀ p (List.mem_append_right _ hp)
  have nL₀ : h₀.get? L = none := kts_self F
  have nm : ∀ b o, h₀.get? b = some o → b ∉ news.map (·.1) := fun b o e q => by
    obtain ⟨p, hp, rfl⟩ := List.mem_map.mp q
    rw [(N p hp).2.2] at e; cases e
  have st : h₀.StaysIn (hideAll s.heap (news.map (·.1))) := fun b o e => hideAll_get _ (F.keep b o e) (nm b o e)
  obtain ⟨oL, es, ep, hL, hLd, hLk, hLf⟩ := F.ns
  have nL : L ∉ news.map (·.1) := fun q => by
    obtain ⟨p, hp, e⟩ := List.mem_map.mp q
    exact (N p hp).2.1 e
  have hLg := hideAll_get (news.map (·.1)) hL nL
  have hNs : ∀ (sl : Array (Option Value)) h', h'.get? L = some { oL with slots := sl } → Heap.Ns h' L m := fun sl h' e => ⟨_, es, ep, e, hLd, hLk, hLf⟩
  have hgr : ∀ q ∈ rest, (hideAll s.heap (news.map (·.1))).get? q.1 = some q.2 := fun q hq => hideAll_get _ (NR q hq).1 fun hm => by
    obtain ⟨p, hp, e⟩ := List.mem_map.mp hm
    exact hnr p hp q hq e.symm
  have B₂ : Below A base (cenv :: outer) (hideAll s.heap (news.map (·.1))) := ⟨hA, fun b o e => st b o (B.stays b o e), by
    refine ⟨by rw [hck]; decide, ⟨L, oL, hcf, ?_, hLg, fun vs q => by rw [hLd] at q; cases q⟩, B.frames.of_keeps fun b o e _ => ⟨o, st b o e, rfl⟩⟩
    exact fresh_of_stays B.stays nL₀⟩
  have hfs : ∀ b, b ∈ (cenv :: outer).filterMap (·.frame) → b = L ∨ b ∈ outer.filterMap (·.frame) := fun b hm => by
    obtain ⟨env, he, hf⟩ := List.mem_filterMap.mp hm
    rcases List.mem_cons.mp he with rfl | he
    · rw [hcf] at hf; exact .inl (Option.some.inj hf).symm
    · exact .inr (List.mem_filterMap.mpr ⟨env, he, hf⟩)
  refine codeAny_call_def (fd := fnOf name qual params body scope dV kV doc pm an cdv ct) (body := body) (binds := binds) hroom (X _ _ ho) rfl (T.nolimit.keeps F.keep) (codeRec_of X hcd) rfl hbind hcell hloc (fun h₁ hns hk₁ => ?_) hco hgen hk
  refine wpAny_mono (h _ s.heap.objs.size h₁ hgr ⟨hNs oL.slots _ hLg, st, F.above⟩ ⟨hns, fun b o e => hk₁ b o (of_hideAll _ e), Nat.le_of_eq (hideAll_size _ _)⟩
    (fun p hp => ⟨hk₁ _ _ (N p hp).1, Nat.ne_of_lt (Heap.lt_size (N p hp).1), hideAll_none _ (List.mem_map_of_mem hp)⟩) B₂ (X₀.keeps st) (T.keeps st) (fun b hb => by
      rcases hfs b hb with rfl | hb
      · exact ⟨oL, es, ep, hLg, hLd⟩
      · obtain ⟨o, es', n', ho', hd'⟩ := D b hb
        exact ⟨o, es', n', st b o ho', hd'⟩)) (fun fl s' hl => ?_) fun _ _ y => y
  rcases hl with ⟨L', m', news', F', N', k⟩ | ⟨g', L', m', news', T', F', N', k⟩
  · refine k ⟨hNs oL.slots _ (F'.keep _ _ hLg), fun b o e => F'.keep b o (st b o e), F.above⟩ (fun p hp => ⟨(N' p hp).1, fun q => ?_, ?_⟩) ?_
    · have := (N' p hp).2.2; rw [q, hLg] at this; cases this
    · cases q : h₀.get? p.1 with
      | none => rfl
      | some o => have := (N' p hp).2.2; rw [st _ _ q] at this; cases this
    · exact fun p hp => ⟨F'.keep _ _ (hgr p hp), (NR p hp).2⟩
  obtain ⟨sl, hs⟩ := T'.up hLg
  obtain ⟨T₁, S₁⟩ := kts_turn_at (h := s'.heap) (fs := outer.filterMap (·.frame)) (g := h₀)
    (fun b hb => by
      obtain ⟨_, o, ho', _⟩ := B.frames.mem hb
      exact ⟨o, ho'⟩)
    (fun b o e nmem => F'.keep b o (T'.other b o (st b o e) (fun q => by
      rcases hfs b q with z | z
      · rw [z, nL₀] at e
        cases e
      · exact nmem z)))
    (fun b o e hm => by
      obtain ⟨sl', hs'⟩ := T'.up (st b o e)
      exact ⟨sl', F'.keep _ _ hs'⟩)
  have B₃ : Below A₀ base outer (ktsHeap s'.heap (outer.filterMap (·.frame)) h₀) := ⟨B.stack, fun b o e => T₁.other b o (B.stays b o e) (fun hm => by
    rw [(B.frames.mem hm).1] at e
    cases e), B.frames.of_keeps fun b o e _ => by
    obtain ⟨sl', hs'⟩ := T₁.up e
    exact ⟨_, hs', rfl⟩⟩
  refine k _ T₁ ⟨hNs sl _ (F'.keep _ _ hs), S₁, by rw [T₁.size]; exact F.above⟩ (fun p hp => ⟨(N' p hp).1, fun q => ?_, ?_⟩) B₃ (XB.keeps B₃.stays) (TB.keeps B₃.stays) (D.turn T₁) ?_
  · have := (N' p hp).2.2; rw [q, hs] at this; cases this
  · refine T₁.none_ _ ?_
    cases q : h₀.get? p.1 with
    | none => rfl
    | some o =>
      obtain ⟨sl', hs'⟩ := T'.up (st _ _ q)
      have := (N' p hp).2.2
      rw [hs'] at this
      cases this
  · refine fun p hp => ⟨F'.keep _ _ (T'.other _ _ (hgr p hp) fun q => ?_), (NR p hp).2⟩
    rcases hfs _ q with z | z
    · exact (NR p hp).2.1 z
    · obtain ⟨_, o', ho', _⟩ := B.frames.mem z
      rw [(NR p hp).2.2] at ho'
      cases ho'
end
theorem leaveS_mono {fs : List Addr} {A₀ : Around} {base : Heap} {outer : List Env} {K : Frag} {p : Program} {loose : List Str} {mean : ExcName → Option Value} {mg mb : Str → Option Value} {g₀ h₀ g : Heap} {L : Addr} {m : Str → Option Value} {R R' : Result → Shared → Prop} {v : Value} {s : Shared}
    (hR : ∀ r s', R r s' → R' r s') (x : LeaveS fs A₀ base outer K p loose mean mg mb g₀ h₀ L m g R v s) : LeaveS fs A₀ base outer K p loose mean mg mb g₀ h₀ L m g R' v s := by
  rcases x with ⟨L', m', news', F', N', k⟩ | ⟨g', L', m', news', T', F', N', k⟩
  · exact .inl ⟨L', m', news', F', N', fun a b => hR _ _ (k a b)⟩
  · exact .inr ⟨g', L', m', news', T', F', N', fun h a b c d e f i => hR _ _ (k h a b c d e f i)⟩
section
variable {prog : Program} {w : World} {A₀ A : Around} {s : Shared} {base h₀ : Heap} {cenv : Env} {outer : List Env} {L : Addr} {m : Str → Option Value} {news rest : List (Addr × Obj)} {K : Frag} {p : Program} {loose : List Str} {mean : ExcName → Option Value} {mg mb : Str → Option Value}
    {R : Result → Shared → Prop} {name qual : Str} {params : Arguments} {body : List Stmt} {scope : Scope} {dV kV doc pm cdv ct oc : Value} {an od : Option Addr} {osl : Array (Option Value)} {f : Addr} {args : Args} {binds : List (Str × Value)}
theorem kx_def0 (hcf : cenv.frame = some L) (hck : cenv.scope.kind = .function) (B : Below A₀ base outer h₀) (F : Fr h₀ L s.heap m) (X₀ : K.In h₀) (N : News h₀ L s.heap news) (T : Top p loose mean mg mb h₀) (XB : K.In base) (TB : Top p loose mean mg mb base)
    (D : KtsDicts (outer.filterMap (·.frame)) h₀) (hA : A.frames = some (cenv :: outer))
    (ho : K.lookup f = some ⟨oc, od, .func (fnOf name qual params body scope dV kV doc pm an cdv ct), osl⟩) (hcd : codeIn K cdv qual = true) (hroom : A.depth < recursionLimit)
    (hbind : BindsTo s (fnOf name qual params body scope dV kV doc pm an cdv ct) args binds) (hloc : ∀ y ∈ binds, scope.names.lookup y.1 = some .local)
    (h : ∀ g L' h₁, Fr h₀ L g m → Fr g L' h₁ (fun y => binds.reverse.lookup y) → News g L' h₁ news → Below A base (cenv :: outer) g → K.In g → Top p loose mean mg mb g → KtsDicts ((cenv :: outer).filterMap (·.frame)) g →
      wpAny (model prog w) (A.deeper (envOf qual scope L' f cdv)) (execs body (envOf qual scope L' f cdv))
        (fun fl s' => LeaveS ((cenv :: outer).filterMap (·.frame)) A₀ base outer K p loose mean mg mb h₀ h₀ L m g R (match fl with | .ret v => v | _ => .none) s')
        (fun e s' => wpAny (model prog w) (A.deeper (envOf qual scope L' f cdv)) (leaving (envOf qual scope L' f cdv) e) (fun _ s'' => R (.error e) s'') (fun e' s'' => R (.error e') s'') s')
        { s with heap := h₁, toks := s.toks + binds.length })
    (hco : scope.isCoroutine = false) (hgen : scope.isGenerator = false) (hk : scope.kind = .function)
    (hcell : ∀ x ∈ scope.names, x.2 ≠ .cell) : codeAny (model prog w) A (.call (.ref f) args) R s :=
  kx_def (rest := []) hcf hck B F X₀ (fun p hp => N p (by simpa using hp)) (fun _ _ _ hq => nomatch hq) T XB TB D hA ho hcd hroom hbind hloc
    (fun g L' h₁ _ a b c d e f' i => wpAny_mono (h g L' h₁ a b c d e f' i) (fun _ _ x => leaveS_mono (fun _ _ y _ => y) x) fun _ _ x => x) hco hgen hk hcell
end
/-- the contract of a def that may turn the frames beneath it -/
noncomputable def SpecS (w : World) (mean : ExcName → Option Value) (mg mb : Str → Option Value) (dn un₀ : Nat) (hz : Bool) (f : Addr) (news : List (Addr × Obj)) (vs : List Value) (Post : Value → List (Addr × Obj) → Prop) : Prop :=
  ∀ (hdl : Option Value) (dp un : Nat) (gd : Option (List Code)) (cenv : Env) (outer : List Env) (A₀ : Around) (base h₀ : Heap) (L : Addr) (m : Str → Option Value) (s : Shared) (rest : List (Addr × Obj)) (Q E : Value → Shared → Prop),
    (hz = true → hdl = none) → cenv.frame = some L → cenv.scope.kind = .function →
    Below A₀ base outer h₀ → Fr h₀ L s.heap m → (Kp w.params).In h₀ → News h₀ L s.heap (news ++ rest) → (∀ p ∈ news, ∀ q ∈ rest, q.1 ≠ p.1) → Top topProg LS mean mg mb h₀ → (Kp w.params).In base → Top topProg LS mean mg mb base → KtsDicts (outer.filterMap (·.frame)) h₀ → CodeHd base 47 43 →
    dp + dn < recursionLimit → un + un₀ < cLine →
    (∀ v news' h' tk' h₀', Post v news' → (∀ p ∈ news', ∀ q ∈ rest, q.1 ≠ p.1) → KtsTurn (outer.filterMap (·.frame)) h₀ h₀' → Below A₀ base outer h₀' → Fr h₀' L h' m → (Kp w.params).In h₀' → News h₀' L h' (news' ++ rest) → Top topProg LS mean mg mb h₀' → KtsDicts (outer.filterMap (·.frame)) h₀' → Q v { s with heap := h', toks := tk' }) →
    wpAny (model PySem.Challenge.rw_rt0053_01.row.prog w) { handled := hdl, depth := dp, frames := some (cenv :: outer), guards := gd, units := un } (call (.ref f) vs) Q E s
theorem SpecS.use {w : World} {mean : ExcName → Option Value} {mg mb : Str → Option Value} {dn un₀ : Nat} {hz : Bool} {f : Addr} {news all rest : List (Addr × Obj)} {vs : List Value} {Post : Value → List (Addr × Obj) → Prop} (S : SpecS w mean mg mb dn un₀ hz f news vs Post)
    {A : Around} {cenv : Env} {outer : List Env} {A₀ : Around} {base h₀ : Heap} {L : Addr} {m : Str → Option Value} {s : Shared} {Q E : Value → Shared → Prop}
    (hzA : hz = true → A.handled = none) (hA : A.frames = some (cenv :: outer)) (hcf : cenv.frame = some L) (hck : cenv.scope.kind = .function) (B : Below A₀ base outer h₀) (F : Fr h₀ L s.heap m) (X : (Kp w.params).In h₀) (N : News h₀ L s.heap all) (T : Top topProg LS mean mg mb h₀)
    (XB : (Kp w.params).In base) (TB : Top topProg LS mean mg mb base) (D : KtsDicts (outer.filterMap (·.frame)) h₀) (C : CodeHd base 47 43) (r1 : A.depth + dn < recursionLimit) (r2 : A.units + un₀ < cLine)
    (hs : ∀ p ∈ news ++ rest, p ∈ all) (hnr : ∀ p ∈ news, ∀ q ∈ rest, q.1 ≠ p.1)
    (k : ∀ v news' h' tk' h₀', Post v news' → (∀ p ∈ news', ∀ q ∈ rest, q.1 ≠ p.1) → KtsTurn (outer.filterMap (·.frame)) h₀ h₀' → Below A₀ base outer h₀' → Fr h₀' L h' m → (Kp w.params).In h₀' → News h₀' L h' (news' ++ rest) → Top topProg LS mean mg mb h₀' → KtsDicts (outer.filterMap (·.frame)) h₀' → Q v { s with heap := h', toks := tk' }) :
    wpAny (model PySem.Challenge.rw_rt0053_01.row.prog w) A (call (.ref f) vs) Q E s := by
  obtain ⟨hdl, dp, fr, gd, un⟩ := A
  cases hA
  exact S hdl dp un gd cenv outer A₀ base h₀ L m s rest Q E hzA hcf hck B F X (fun p hp => N p (hs p hp)) hnr T XB TB D C r1 r2 k
/-- what the callee's own ledger cannot meet -/
theorem rest_off {g g' h' : Heap} {L : Addr} {fs : List Addr} {news rest : List (Addr × Obj)} (hg : ∀ q ∈ rest, g.get? q.1 = some q.2) (T : KtsTurn fs g g') (N : News g' L h' news) : ∀ p ∈ news, ∀ q ∈ rest, q.1 ≠ p.1 := fun p hp q hq z => by
  obtain ⟨sl, hs⟩ := T.up (hg q hq)
  rw [z, (N p hp).2.2] at hs
  cases hs
theorem news_app {h₀ h₀' h' : Heap} {L : Addr} {fs : List Addr} {news rest : List (Addr × Obj)} (T : KtsTurn fs h₀ h₀') (N : News h₀' L h' news) (R : News h₀ L h' rest) : News h₀' L h' (news ++ rest) := fun p hp => by
  rcases List.mem_append.mp hp with hp | hp
  · exact N p hp
  · exact ⟨(R p hp).1, (R p hp).2.1, T.none_ _ (R p hp).2.2⟩
theorem fin {w : World} {mean : ExcName → Option Value} {mg mb : Str → Option Value} {nw big rest : List (Addr × Obj)} {Post : Value → List (Addr × Obj) → Prop} {outer : List Env} {A₀ : Around} {base h₀ h₀' g g₁ h' : Heap} {L L' : Addr} {m : Str → Option Value} {s : Shared} {Q : Value → Shared → Prop} {v : Value} {tk' : Tok} {fs : List Addr}
    (hret : ∀ v news' h' tk' h₀', Post v news' → (∀ p ∈ news', ∀ q ∈ rest, q.1 ≠ p.1) → KtsTurn (outer.filterMap (·.frame)) h₀ h₀' → Below A₀ base outer h₀' → Fr h₀' L h' m → (Kp w.params).In h₀' → News h₀' L h' (news' ++ rest) → Top topProg LS mean mg mb h₀' → KtsDicts (outer.filterMap (·.frame)) h₀' → Q v { s with heap := h', toks := tk' })
    (P : Post v nw) (sub : ∀ p ∈ nw, p ∈ big) (hgr : ∀ q ∈ rest, g.get? q.1 = some q.2) (T0 : KtsTurn fs g g₁) (Ng : News g₁ L' h' big) (T1 : KtsTurn (outer.filterMap (·.frame)) h₀ h₀') (B : Below A₀ base outer h₀') (F : Fr h₀' L h' m) (X : (Kp w.params).In h₀') (N : News h₀' L h' big) (R : News h₀ L h' rest)
    (T : Top topProg LS mean mg mb h₀') (D : KtsDicts (outer.filterMap (·.frame)) h₀') : Q v { s with heap := h', toks := tk' } :=
  hret v nw h' tk' h₀' P (fun p hp => rest_off hgr T0 Ng p (sub p hp)) T1 B F X (news_app T1 (fun p hp => N p (sub p hp)) R) T D
end Mine
end
section
open PySem PySem.W PyProof.Rows PySem.Calls
namespace Mine
section
variable {M : Model} {A : Around} {E : Value → Shared → Prop} {s' : Shared} {base g g₀ : Heap} {outer : List Env} {L a e : Addr} {m : Str → Option Value} {name : Str} {scope : Scope} {cd : Value} {Q : Unit → Shared → Prop} {news : List (Addr × Obj)} {C t e₁ : Addr}
theorem turn_back (T0 : KtsTurn (outer.filterMap (·.frame)) g₀ g) {cls : Value} {h' : Heap} (R : RaisedSN base g outer e cls news h') : RaisedSN base g₀ outer e cls news h' := by
  obtain ⟨B, a0, hB, hBG, hl, hfl⟩ := R
  refine ⟨B, a0, hB, fun b o q nm => hBG b o (T0.other b o q nm) nm, fun q hq => ⟨(hl q hq).1, ?_, (hl q hq).2.2⟩, hfl⟩
  cases z : g₀.get? q.1 with
  | none => rfl
  | some o =>
    obtain ⟨sl, hs⟩ := T0.up z
    rw [(hl q hq).2.1] at hs
    cases hs
theorem turn_slots (T0 : KtsTurn (outer.filterMap (·.frame)) g₀ g) {h' : Heap} (U : g.UpToSlots h') : g₀.UpToSlots h' := fun b o q hn => by
  obtain ⟨sl, hs⟩ := T0.up q
  obtain ⟨sl', hs'⟩ := U b _ hs hn
  exact ⟨sl', hs'⟩
theorem kx_leaveN (K : Below A base outer g) (F : Fr g L s'.heap m) (N : News g L s'.heap ((e, excO C t) :: news)) (T0 : KtsTurn (outer.filterMap (·.frame)) g₀ g) (hk : scope.kind = .function) (hne : ∀ q ∈ news, q.1 ≠ e)
    (hQ : ∀ h', RaisedSN base g₀ outer e (.ref C) news h' → g₀.UpToSlots h' → Q () { s' with heap := h' }) :
    wpAny M (A.deeper (envOf name scope L a cd)) (leaving (envOf name scope L a cd) (.ref e)) Q E s' :=
  kx_leave (a0 := .ref t) K F N hne rfl rfl rfl (fun h' R U => hQ h' (turn_back T0 R) (turn_slots T0 U)) hk
theorem kx_leaveF (K : Below A base outer g) (F : Fr g L s'.heap m) (N : News g L s'.heap ((e, excF C t e₁) :: news)) (T0 : KtsTurn (outer.filterMap (·.frame)) g₀ g) (hk : scope.kind = .function) (hne : ∀ q ∈ news, q.1 ≠ e)
    (hQ : ∀ h', RaisedSN base g₀ outer e (.ref C) news h' → g₀.UpToSlots h' → Q () { s' with heap := h' }) :
    wpAny M (A.deeper (envOf name scope L a cd)) (leaving (envOf name scope L a cd) (.ref e)) Q E s' :=
  kx_leave (a0 := .ref t) K F N hne rfl rfl rfl (fun h' R U => hQ h' (turn_back T0 R) (turn_slots T0 U)) hk
end
section
variable {prog : Program} {w : World} {A : Around} {E : Value → Shared → Prop} {s : Shared} {h₀ : Heap} {L C : Addr} {m : Str → Option Value} {mg : Str → Option Value} {x : Str} {env : Env} {pos : Pos}
theorem kx_raiseFromB {A₀ : Around} {base g : Heap} {outer : List Env} {newId initId B : String} {bm : List Value} {X : Expr} {kk : Nat} {cpos : Pos} {e₁ : Addr} {Q : Flow → Shared → Prop} (_K : Below A₀ base outer g) (O : OwnCls x C bm newId mg base) (FB : ExcBaseFacts B newId initId bm) (hh : A.handled = some (.ref e₁))
    (h : wpAny (model prog w) A (eval X env) (RaiseF C e₁ base E) E s) : wpAny (model prog w) A (exec (.Raise (some X) (some (.Constant .none kk cpos)) pos) env) Q E s := kx_raiseFrom O FB hh h
theorem kx_raiseB {A₀ : Around} {base g : Heap} {outer : List Env} {newId initId B : String} {bm : List Value} {X : Expr} {Q : Flow → Shared → Prop} (_K : Below A₀ base outer g) (O : OwnCls x C bm newId mg base) (FB : ExcBaseFacts B newId initId bm) (hh : A.handled = none)
    (h : wpAny (model prog w) A (eval X env) (RaiseQ C base E) E s) : wpAny (model prog w) A (exec (.Raise (some X) none pos) env) Q E s := kx_raise O FB hh h
variable {news : List (Addr × Obj)}
theorem RaiseQ.intro {e t : Addr} {base : Heap} {outer : List Env} (B : Below A base outer h₀) (F : Fr h₀ L s.heap m) (N : News h₀ L s.heap ((e, excO C t) :: news)) (hE : E (.ref e) s) : RaiseQ C base E (.ref e) s := ⟨e, t, rfl, fun b o q => F.keep b o (B.stays b o q), (N _ (.head _)).1, hE⟩
theorem RaiseF.intro {e t e₁ : Addr} {o₁ : Obj} {vs₁ : Array Value} {base : Heap} {outer : List Env} (B : Below A base outer h₀) (F : Fr h₀ L s.heap m) (N : News h₀ L s.heap ((e, excO C t) :: news)) (hne : ∀ q ∈ news, q.1 ≠ e) (hm : (e₁, o₁) ∈ news) (hd : o₁.data = .fields vs₁) (h2 : vs₁[2]? = some .none)
    (hE : ∀ h', Fr h₀ L h' m → News h₀ L h' ((e, excF C t e₁) :: news) → E (.ref e) { s with heap := h' }) : RaiseF C e₁ base E (.ref e) s :=
  ⟨h₀, L, m, e, t, o₁, vs₁, news, rfl, B.stays, F, N, hne, hm, hd, h2, hE⟩
end
section
open PySem.Spec PySem.StrLaws
variable {prog : Program} {w : World} {A : Around} {E : Value → Shared → Prop} {Q : Flow → Shared → Prop} {s : Shared} {env : Env} {h₀ : Heap} {L : Addr}
theorem free_iff {S : Str → Bool} {x : Str} {p n : Int} (h0 : 0 ≤ p) (h1 : p ≤ n) (h2 : n ≤ x.length) : freeOf S (Txt.slice x (some p) (some n)) = true ↔ ∀ q : Int, p ≤ q → q < n → S (Txt.item x q) = false := by
  have e : Txt.slice x (some p) (some n) = ⟨((x.cps.toList.drop p.toNat).take (n - p).toNat).toArray⟩ := sliceText_plain ⟨h0, h1, by simpa [Str.length] using h2⟩
  have hl : x.cps.toList.length = x.length := by simp [Str.length]
  rw [e]
  unfold freeOf
  simp only [List.all_eq_true, Bool.not_eq_true']
  constructor
  · intro h q hq hn
    have hi := item_at (x := x) (i := q) (n := q.toNat) (by omega) (by omega) rfl
    rw [hi]
    refine h _ (List.mem_iff_getElem?.mpr ⟨(q - p).toNat, ?_⟩)
    rw [List.getElem?_take, if_pos (by omega), List.getElem?_drop]
    have hz : p.toNat + (q - p).toNat = q.toNat := by omega
    rw [hz, List.getElem?_eq_getElem (by omega)]
    simp [Array.getD, show q.toNat < x.cps.size from by simpa [Str.length] using (by omega : q.toNat < x.length)]
  · intro h c hc
    obtain ⟨k, hk⟩ := List.mem_iff_getElem?.mp hc
    rw [List.getElem?_take] at hk
    split at hk
    · rename_i hkn
      rw [List.getElem?_drop] at hk
      have hq := h (p + k) (by omega) (by omega)
      rw [item_at (x := x) (i := p + k) (n := p.toNat + k) (by omega) (by omega) (by omega)] at hq
      have hlt : p.toNat + k < x.cps.size := by simpa [Str.length] using (by omega : p.toNat + k < x.length)
      rw [List.getElem?_eq_getElem (by simpa using hlt)] at hk
      have : x.cps.getD (p.toNat + k) 0 = c := by simpa [Array.getD, hlt] using hk
      rw [this] at hq
      exact hq
    · cases hk
theorem free_hit {S : Str → Bool} {x : Str} {p n : Int} (h0 : 0 ≤ p) (h1 : p ≤ n) (h2 : n ≤ x.length) (h : freeOf S (Txt.slice x (some p) (some n)) = false) : ∃ q : Int, p ≤ q ∧ q < n ∧ (!S (Txt.item x q)) = false := by
  refine Classical.byContradiction fun hn => ?_
  have : freeOf S (Txt.slice x (some p) (some n)) = true := (free_iff h0 h1 h2).mpr fun q hq hqn => by
    cases hS : S (Txt.item x q) with
    | false => rfl
    | true => exact absurd ⟨q, hq, hqn, by rw [hS]; rfl⟩ hn
  rw [this] at h
  cases h
theorem repr_dash : (reprText (Str.ofString "-")).length ≤ sizeLine := by rw [sizeLine_eq]; exact Nat.le_of_ble_eq_true (by decide +kernel)
theorem repr_item12 {x : Str} {p : Int} (hx : ∀ c ∈ x.cps.toList, c < 16 ^ 8) (h0 : 0 ≤ p) (h1 : p < x.length) : (reprText (Txt.item x p)).length ≤ 12 := by
  have hl : x.cps.toList.length = x.length := by simp [Str.length]
  have h := reprText_len (Txt.item x p) (by
    rw [item_at (n := p.toNat) h0 h1 rfl]
    intro c hc
    have hlt : p.toNat < x.cps.toList.length := by omega
    refine hx c (List.mem_iff_getElem.mpr ⟨p.toNat, hlt, ?_⟩)
    have : c = x.cps.getD p.toNat 0 := by simpa using hc
    rw [this]
    simp [Array.getD, show p.toNat < x.cps.size from by simpa using hlt])
  rw [show (Txt.item x p).length = 1 from rfl] at h
  omega
theorem msg1 : (Str.empty ++ Str.ofString "Expected " ++ reprText (Str.ofString "-")).length ≤ 1000 := by decide +kernel
theorem msg2 {x : Str} {p : Int} (hx : ∀ c ∈ x.cps.toList, c < 16 ^ 8) (h0 : 0 ≤ p) (h1 : p < x.length) : (Str.empty ++ Str.ofString "Found invalid character " ++ reprText (Txt.item x p)).length ≤ 1000 := by
  have := repr_item12 hx h0 h1
  rw [Str.length_append, Str.length_append, show Str.empty.length = 0 from rfl, show (Str.ofString "Found invalid character ").length = 24 by decide +kernel]
  omega
theorem repr_item {x : Str} {p : Int} (hx : ∀ c ∈ x.cps.toList, c < 16 ^ 8) (h0 : 0 ≤ p) (h1 : p < x.length) : (reprText (Txt.item x p)).length ≤ sizeLine := by
  have hl : x.cps.toList.length = x.length := by simp [Str.length]
  have h := reprText_len (Txt.item x p) (by
    rw [item_at (n := p.toNat) h0 h1 rfl]
    intro c hc
    have hlt : p.toNat < x.cps.toList.length := by omega
    refine hx c (List.mem_iff_getElem.mpr ⟨p.toNat, hlt, ?_⟩)
    have : c = x.cps.getD p.toNat 0 := by simpa using hc
    rw [this]
    simp [Array.getD, show p.toNat < x.cps.size from by simpa using hlt])
  rw [show (Txt.item x p).length = 1 from rfl] at h
  rw [sizeLine_eq]
  omega
/-- a text of few short parts -/
noncomputable def FitK (k : Nat) (x : Str) : Prop := x.length ≤ k * 60000
theorem FitK.app {k : Nat} {a b : Str} (ha : FitK k a) (hb : b.length ≤ 60000) : FitK (k + 1) (a ++ b) := by unfold FitK at *; rw [Str.length_append]; omega
theorem FitK.base {k : Nat} {a : Str} (h : a.length ≤ 60000) : FitK (k + 1) a := by unfold FitK; omega
theorem FitK.top {x : Str} (h : FitK 200 x) : x.length ≤ sizeLine := by unfold FitK at h; rw [sizeLine_eq]; omega
noncomputable def FitN (k : Nat) (x : Str) : Prop := x.length ≤ k * 1000
theorem FitN.app {k : Nat} {a b : Str} (ha : FitN k a) (hb : b.length ≤ 1000) : FitN (k + 1) (a ++ b) := by unfold FitN at *; rw [Str.length_append]; omega
theorem FitN.base {k : Nat} {a : Str} (h : a.length ≤ 1000) : FitN (k + 1) a := by unfold FitN; omega
theorem FitN.top {x : Str} (h : FitN 60 x) : x.length ≤ 60000 := by unfold FitN at h; omega
theorem num_fits {n : Int} (h0 : 0 ≤ n) (h : n < 10 ^ 10) : (Str.ofString (toString n)).length ≤ 1000 := Nat.le_trans (KT.len_num h0 h) (by decide)
/-- a test with a known answer, and both ways on -/
noncomputable def SkipB (c b : Bool) (P₁ P₂ : Prop) : Prop := b = c ∧ (b = true → P₁) ∧ (b = false → P₂)
theorem SkipB.intro {b : Bool} {P₁ P₂ : Prop} (h1 : b = true → P₁) (h2 : b = false → P₂) : SkipB b b P₁ P₂ := ⟨rfl, h1, h2⟩
theorem kx_skip {i : Str} {test : Expr} {body : List Stmt} {pos : Pos} {m : Str → Option Value} {news : List (Addr × Obj)} {p0 q : Int} {t0 : Tok} {c : Int → Bool}
    (F : Fr h₀ L s.heap m) (N : News h₀ L s.heap news) (hm : m i = some (.int p0 t0)) (hq : p0 ≤ q) (hc : c q = false)
    (turn : ∀ p t h₁ tk₁, p0 ≤ p → p ≤ q → Fr h₀ L h₁ (bindM m i (some (.int p t))) → News h₀ L h₁ news →
      wpAny (model prog w) A (isTrue test env (eval test env)) (fun b s₂ => SkipB (c p) b (wpAny (model prog w) A (execs body env) (CntStep h₀ L s m i news (p + 1)) E s₂) (Q .next s₂)) E { s with heap := h₁, toks := tk₁ })
    (hE : PassesOwn (model prog w) A env E := by passes_own) :
    wpAny (model prog w) A (exec (.While test body [] pos) env) Q E s := by
  refine While_inv (fun n m₁ news₁ => ∃ p t, p0 ≤ p ∧ p ≤ q ∧ m₁ = bindM m i (some (.int p t)) ∧ news₁ = news ∧ n = (q - p).toNat) (n₀ := (q - p0).toNat) F N ⟨p0, t0, Int.le_refl _, hq, ?_, rfl, rfl⟩ ?_ hE
  · rw [← hm]; exact bindM_start m i
  rintro n m₁ news₁ h₁ tk₁ F₁ N₁ ⟨p, t, hp, hpq, rfl, rfl, rfl⟩
  refine wpAny_mono (turn p t h₁ tk₁ hp hpq F₁ N₁) (fun b s₂ h₂ => ?_) fun _ _ x => x
  obtain ⟨hb, hT, hF⟩ := h₂
  cases b with
  | false => simpa using hF rfl
  | true =>
    simp only [if_true]
    have hne : p ≠ q := fun z => by rw [z, hc] at hb; cases hb
    refine wpAny_mono (hT rfl) (fun f s₃ h₃ => ?_) fun _ _ x => x
    obtain ⟨rfl, h', tk, t', rfl, F₂, N₂⟩ := h₃
    exact WhileStep.intro F₂ N₂ (n' := (q - (p + 1)).toNat) (by omega) ⟨p + 1, t', by omega, by omega, rfl, rfl, rfl⟩
theorem kx_skipS {i : Str} {test : Expr} {body : List Stmt} {pos : Pos} {m : Str → Option Value} {news : List (Addr × Obj)} {p0 n : Int} {t0 : Tok} {S : Str → Bool} {x : Str} (hfr : freeOf S (Txt.slice x (some p0) (some n)) = false)
    (F : Fr h₀ L s.heap m) (N : News h₀ L s.heap news) (hm : m i = some (.int p0 t0)) (b0 : 0 ≤ p0) (b1 : p0 ≤ n) (b2 : n ≤ x.length)
    (turn : ∀ p t h₁ tk₁, p0 ≤ p → p < x.length → 0 ≤ p → Fr h₀ L h₁ (bindM m i (some (.int p t))) → News h₀ L h₁ news →
      wpAny (model prog w) A (isTrue test env (eval test env)) (fun b s₂ => SkipB (!S (Txt.item x p)) b (wpAny (model prog w) A (execs body env) (CntStep h₀ L s m i news (p + 1)) E s₂) (Q .next s₂)) E { s with heap := h₁, toks := tk₁ })
    (hE : PassesOwn (model prog w) A env E := by passes_own) :
    wpAny (model prog w) A (exec (.While test body [] pos) env) Q E s := by
  obtain ⟨q, h1, h2, h3⟩ := free_hit b0 b1 b2 hfr
  exact kx_skip (c := fun p => !S (Txt.item x p)) F N hm h1 h3 (fun p t h₁ tk₁ hp hq F' N' => turn p t h₁ tk₁ hp (by omega) (by omega) F' N') hE
end
end Mine
end
section
open PySem PySem.W PyProof.Rows
namespace Mine
noncomputable abbrev CQ : Str := Str.ofString "suffixed_err.<locals>.coord_repr"
theorem cq_eq {vs : Array Value} {q : Str} {t : Tok} (h : vs[1]? = some (.str CQ t)) (e : q = CQ) : vs[1]? = some (.str q t) := by rw [e]; exact h
noncomputable abbrev tabC (c : Addr) : Obj := tabObj (#[] ++ #[rawInt ↑21, rawInt ↑4, .ref c])
/-- what is known of the code of coord_repr -/
noncomputable def CodeC (c : Addr) (oc : Obj) : Prop := 43 < c ∧ ∃ vs t, oc.data = .fields vs ∧ vs[1]? = some (.str CQ t)
/-- the two states of the code table of suffixed_err -/
noncomputable def TabLed (nw : List (Addr × Obj)) : Prop := nw = [(43, tabObj #[])] ∨ ∃ c oc, nw = [(43, tabC c), (c, oc)] ∧ CodeC c oc
noncomputable def SfxPost (v : Value) (nw : List (Addr × Obj)) : Prop :=
  ∃ e t tv tab, v = .ref e ∧ nw = (e, excO 31 t) :: (t, { cls := .type "tuple", data := .seq #[tv] }) :: tab ∧ TabLed tab ∧ e ≠ t ∧ ∀ q ∈ tab, q.1 ≠ e ∧ q.1 ≠ t
theorem sfx_post {h₀ h : Heap} {L e t c : Addr} {tv : Value} {oc : Obj} {rest : List (Addr × Obj)} (_N : News h₀ L h ((e, excO 31 t) :: (t, { cls := .type "tuple", data := .seq #[tv] }) :: rest)) (m3 : (43, tabC c) ∈ rest) (m4 : (c, oc) ∈ rest) (hc : CodeC c oc)
    (ne : e ≠ t) (o1 : ∀ q ∈ rest, q.1 ≠ e) (o2 : ∀ q ∈ rest, q.1 ≠ t) : ∃ nw, SfxPost (.ref e) nw ∧ ∀ q ∈ nw, q ∈ (e, excO 31 t) :: (t, { cls := .type "tuple", data := .seq #[tv] }) :: rest := by
  refine ⟨(e, excO 31 t) :: (t, { cls := .type "tuple", data := .seq #[tv] }) :: [(43, tabC c), (c, oc)], ⟨e, t, tv, _, rfl, rfl, .inr ⟨c, oc, rfl, hc⟩, ne, fun q hq => ?_⟩, fun q hq => ?_⟩
  · have : q ∈ rest := by
      rcases List.mem_cons.mp hq with rfl | hq
      · exact m3
      · obtain rfl := List.mem_singleton.mp hq
        exact m4
    exact ⟨o1 q this, o2 q this⟩
  · simp only [List.mem_cons, List.not_mem_nil, or_false] at hq ⊢
    rcases hq with rfl | rfl | rfl | rfl
    · exact .inl rfl
    · exact .inr (.inl rfl)
    · exact .inr (.inr m3)
    · exact .inr (.inr m4)
end Mine
end
section
open PySem PySem.W PyProof.Rows PySem.Calls
namespace Mine
/-- all that a walk knows of the heap between two steps; the ground may have turned since g0 -/
structure Cfg (w : World) (mean : ExcName → Option Value) (mg mb : Str → Option Value) (A₀ : Around) (base : Heap) (outer : List Env) (g0 : Heap) (L : Addr) (h₀ h : Heap) (m : Str → Option Value) (news : List (Addr × Obj)) : Prop where
  turn : KtsTurn (outer.filterMap (·.frame)) g0 h₀
  B : Below A₀ base outer h₀
  F : Fr h₀ L h m
  X : (Kp w.params).In h₀
  N : News h₀ L h news
  T : Top topProg LS mean mg mb h₀
  D : KtsDicts (outer.filterMap (·.frame)) h₀
section
variable {w : World} {mean : ExcName → Option Value} {mg mb : Str → Option Value} {A₀ : Around} {base : Heap} {outer : List Env} {g0 : Heap} {L : Addr} {h₀ h h' : Heap} {m : Str → Option Value} {news : List (Addr × Obj)}
theorem Cfg.moved (C : Cfg w mean mg mb A₀ base outer g0 L h₀ h m news) {wr : List Addr} (hL : L ∉ wr) (hw : ∀ b ∈ wr, h₀.get? b = none) (hn : ∀ p ∈ news, p.1 ∉ wr) (k : ∀ b o, b ∉ wr → h.get? b = some o → h'.get? b = some o) : Cfg w mean mg mb A₀ base outer g0 L h₀ h' m news where
  turn := C.turn
  B := C.B
  F := ⟨C.F.ns.at' fun o e => k _ o hL e, fun b o e => k b o (fun hb => by rw [hw b hb] at e; cases e) (C.F.keep b o e), C.F.above⟩
  X := C.X
  N := fun p hp => ⟨k _ _ (hn p hp) (C.N p hp).1, (C.N p hp).2⟩
  T := C.T
  D := C.D
theorem Cfg.more (C : Cfg w mean mg mb A₀ base outer g0 L h₀ h m news) {own : List (Addr × Obj)} (ho : ∀ p ∈ own, h.get? p.1 = some p.2 ∧ p.1 ≠ L ∧ h₀.get? p.1 = none) : Cfg w mean mg mb A₀ base outer g0 L h₀ h m (own ++ news) where
  turn := C.turn
  B := C.B
  F := C.F
  X := C.X
  N := fun p hp => (List.mem_append.mp hp).elim (ho p) (C.N p)
  T := C.T
  D := C.D
theorem Cfg.less (C : Cfg w mean mg mb A₀ base outer g0 L h₀ h m news) {news' : List (Addr × Obj)} (hs : ∀ p ∈ news', p ∈ news) : Cfg w mean mg mb A₀ base outer g0 L h₀ h m news' where
  turn := C.turn
  B := C.B
  F := C.F
  X := C.X
  N := fun p hp => C.N p (hs p hp)
  T := C.T
  D := C.D
end
noncomputable def ownAt (h : Heap) (wr : List Addr) : List (Addr × Obj) := wr.filterMap fun b => (h.get? b).map fun o => (b, o)
theorem mem_ownAt {h : Heap} {wr : List Addr} {p : Addr × Obj} : p ∈ ownAt h wr ↔ p.1 ∈ wr ∧ h.get? p.1 = some p.2 := by
  unfold ownAt
  rw [List.mem_filterMap]
  constructor
  · rintro ⟨b, hb, e⟩
    rw [Option.map_eq_some_iff] at e
    obtain ⟨o, e, rfl⟩ := e
    exact ⟨hb, e⟩
  · rintro ⟨hb, e⟩
    exact ⟨p.1, hb, by rw [e]; rfl⟩
/-- what is owed at a turn's end -/
noncomputable def LoopEnd (w : World) (mean : ExcName → Option Value) (mg mb : Str → Option Value) (A₀ : Around) (base : Heap) (outer : List Env) (g0 : Heap) (L : Addr) (wr : List Addr) (own : List (Addr × Obj)) (J : (Str → Option Value) → List (Addr × Obj) → Prop) (s₁ s₃ : Shared) : Prop :=
  ∃ h₀' h' tk' m' news', s₃ = { s₁ with heap := h', toks := tk' } ∧ Cfg w mean mg mb A₀ base outer g0 L h₀' h' m' (own ++ news') ∧ (∀ p ∈ news', p.1 ∉ wr) ∧ J m' news'
noncomputable def LoopPost (w : World) (mean : ExcName → Option Value) (mg mb : Str → Option Value) (A₀ : Around) (base : Heap) (outer : List Env) (g0 : Heap) (L : Addr) (wr : List Addr) (own : List (Addr × Obj)) (J : (Str → Option Value) → List (Addr × Obj) → Prop) (Q : Flow → Shared → Prop) (s₁ : Shared) (f : Flow) (s₃ : Shared) : Prop :=
  match f with
  | .ret v => Q (.ret v) s₃
  | .brk => Q .next s₃
  | _ => LoopEnd w mean mg mb A₀ base outer g0 L wr own J s₁ s₃
section
variable {w : World} {mean : ExcName → Option Value} {mg mb : Str → Option Value} {A₀ : Around} {base : Heap} {outer : List Env} {g0 : Heap} {L : Addr} {wr : List Addr} {own : List (Addr × Obj)} {J : (Str → Option Value) → List (Addr × Obj) → Prop} {Q : Flow → Shared → Prop} {s₁ : Shared}
theorem lp_brk {s₃ : Shared} (h : Q .next s₃) : LoopPost w mean mg mb A₀ base outer g0 L wr own J Q s₁ .brk s₃ := h
theorem lp_end {h₀' h' : Heap} {tk' : Tok} {m' : Str → Option Value} {all : List (Addr × Obj)} (news' : List (Addr × Obj)) (C : Cfg w mean mg mb A₀ base outer g0 L h₀' h' m' all) (hs : ∀ p ∈ own ++ news', p ∈ all) (off : ∀ p ∈ news', p.1 ∉ wr) (hJ : J m' news') :
    LoopPost w mean mg mb A₀ base outer g0 L wr own J Q s₁ .next { s₁ with heap := h', toks := tk' } := ⟨h₀', h', tk', m', news', rfl, C.less hs, off, hJ⟩
end
/-- a for whose iterator is at hand -/
noncomputable def FLoop (prog : Program) (w : World) (A : Around) (E : Value → Shared → Prop) (env : Env) (target : Expr) (body orelse : List Stmt) (Q : Flow → Shared → Prop) (it : Value) (s : Shared) : Prop :=
  codeAny (model prog w) A (.forLoop target it body orelse env) (fun r s' => match r with | .ok f => Q f s' | .error e => cameBackBy (model prog w) A env E e s') s
section
variable {prog : Program} {w : World} {A : Around} {E : Value → Shared → Prop} {s : Shared} {env : Env} {target iter : Expr} {body orelse : List Stmt} {Q : Flow → Shared → Prop} {pos : Pos}
theorem for_open (h : wpAny (model prog w) A (eval iter env) (fun x s₁ => wpAny (model prog w) A (pyIter x) (fun it s₂ => FLoop prog w A E env target body orelse Q it s₂) E s₁) E s)
    (hs : ∀ x, foldedSetIterable iter env x = pure x := by intro _; rfl) : wpAny (model prog w) A (exec (.For target iter body orelse pos) env) Q E s := wpAny_For h hs
variable {mean : ExcName → Option Value} {mg mb : Str → Option Value} {A₀ : Around} {base : Heap} {outer : List Env} {g0 : Heap}
/-- a for over any iterator that the library knows, its state told by J between the turns -/
theorem for_turns {I : Addr} {fp wr : List Addr} {n : Nat} {P Md : Nat → Value → Heap → Prop} {St : Nat → Heap → Prop} {m : Str → Option Value} {news : List (Addr × Obj)} {h₁ : Heap} {tk₁ : Tok}
    (J : Nat → (Str → Option Value) → List (Addr × Obj) → Prop) (stay : List (Addr × Obj))
    (W : KTurns prog w A target I fp wr n P Md St) (hL : env.locals ∉ fp) (hw : ∀ b ∈ wr, g0.get? b = none)
    (hfp : ∀ b ∈ fp, b ∈ wr ∨ (∃ o, (b, o) ∈ stay) ∨ ∃ o, (Kp w.params).lookup b = some o)
    (hst : ∀ i m news, J i m news → ∀ p ∈ stay, p ∈ news)
    (h0 : J 0 m news) (hn : ∀ p ∈ news, p.1 ∉ wr) (S0 : St 0 h₁) (C : Cfg w mean mg mb A₀ base outer g0 env.locals g0 h₁ m news)
    (turn : ∀ i v m news h₀ h tk own, i < n → P i v h → J i m news → (∀ p ∈ own, p.1 ∈ wr) → (∀ p ∈ news, p.1 ∉ wr) → own = ownAt h wr → St (i + 1) h → Cfg w mean mg mb A₀ base outer g0 env.locals h₀ h m (own ++ news) →
      wpAny (model prog w) A (assign target env v) (fun _ s₂ => wpAny (model prog w) A (execs body env) (LoopPost w mean mg mb A₀ base outer g0 env.locals wr own (J (i + 1)) Q { s with heap := h, toks := tk }) E s₂) E { s with heap := h, toks := tk })
    (done : ∀ m news h₀ h tk, J n m news → Cfg w mean mg mb A₀ base outer g0 env.locals h₀ h m news → wpAny (model prog w) A (execs orelse env) Q E { s with heap := h, toks := tk })
    (hE : PassesOwn (model prog w) A env E := by passes_own) :
    FLoop prog w A E env target body orelse Q (.ref I) { s with heap := h₁, toks := tk₁ } := by
  have hLw : env.locals ∉ wr := fun q => hL (W.sub _ q)
  refine codeAny_forLoop_any (fun k s' => ∃ h₀ h tk m news i, s' = { s with heap := h, toks := tk } ∧ St i h ∧ Cfg w mean mg mb A₀ base outer g0 env.locals h₀ h m news ∧ (∀ p ∈ news, p.1 ∉ wr) ∧ J i m news ∧ i ≤ n ∧ k = n - i) ?_ n
    ⟨g0, h₁, tk₁, m, news, 0, rfl, S0, C, hn, h0, Nat.zero_le _, rfl⟩
  rintro k s' ⟨h₀, h, tk, m, news, i, rfl, S, C, off, hJ, hi, rfl⟩
  have hw' : ∀ b ∈ wr, h₀.get? b = none := fun b hb => C.turn.none_ b (hw b hb)
  by_cases hlt : i < n
  · refine W.item i _ _ _ hlt S fun v h₂ tk₂ hM k₂ => ?_
    refine W.go i v _ _ _ hM fun h₃ hP S₃ k₃ => ?_
    have C₃ := (C.moved hLw hw' off k₂).moved hLw hw' off k₃
    have C₄ := C₃.more (own := ownAt h₃ wr) fun p hp => ⟨(mem_ownAt.mp hp).2, fun q => hLw (q ▸ (mem_ownAt.mp hp).1), hw' _ (mem_ownAt.mp hp).1⟩
    refine wpAny_mono (turn i v m news h₀ h₃ tk₂ _ hlt hP hJ (fun p hp => (mem_ownAt.mp hp).1) off rfl S₃ C₄) (fun _ s₂ h₂ => wpAny_mono h₂ (fun f s₃ q => ?_) hE) hE
    have fin : LoopEnd w mean mg mb A₀ base outer g0 env.locals wr (ownAt h₃ wr) (J (i + 1)) { s with heap := h₃, toks := tk₂ } s₃ →
        ∃ k, k < n - i ∧ ∃ h₀ h tk m news j, s₃ = { s with heap := h, toks := tk } ∧ St j h ∧ Cfg w mean mg mb A₀ base outer g0 env.locals h₀ h m news ∧ (∀ p ∈ news, p.1 ∉ wr) ∧ J j m news ∧ j ≤ n ∧ k = n - j := by
      rintro ⟨h₀', h', tk', m', news', rfl, C', off', hJ'⟩
      refine ⟨n - (i + 1), by omega, h₀', h', tk', m', news', i + 1, rfl, W.frame _ _ _ S₃ fun b hb o e => ?_, C'.less fun p hp => List.mem_append_right _ hp, off', hJ', by omega, rfl⟩
      rcases hfp b hb with q | ⟨o', q⟩ | ⟨o', q⟩
      · exact (C'.N (b, o) (List.mem_append_left _ (mem_ownAt.mpr ⟨q, e⟩))).1
      · have e1 := (C₃.N _ (hst _ _ _ hJ _ q)).1
        have e2 := (C'.N _ (List.mem_append_right _ (hst _ _ _ hJ' _ q))).1
        exact e2.trans (e1.symm.trans e)
      · have e1 := C₃.F.keep _ _ (C₃.X _ _ q)
        have e2 := C'.F.keep _ _ (C'.X _ _ q)
        exact e2.trans (e1.symm.trans e)
    cases f with
    | ret v => exact q
    | brk => exact q
    | next => exact fin q
    | cont => exact fin q
  · have hin : i = n := by omega
    subst hin
    refine W.done _ _ _ S fun h₂ tk₂ k₂ => ?_
    exact wpAny_mono (done m news h₀ h₂ tk₂ hJ (C.moved hLw hw' off k₂)) (fun _ _ x => x) hE
end
end Mine
end
section
open PySem PySem.W PyProof.Rows PySem.Calls
namespace Mine
section
variable {prog : Program} {w : World} {A : Around} {E : Value → Shared → Prop} {s : Shared} {env : Env} {target : Expr} {body orelse : List Stmt} {Q : Flow → Shared → Prop} {mean : ExcName → Option Value} {mg mb : Str → Option Value} {A₀ : Around} {base : Heap} {outer : List Env} {g0 : Heap} {m : Str → Option Value} {news : List (Addr × Obj)}
theorem new_at {h : Heap} {L : Addr} (F : Fr g0 L h m) {b : Addr} (hb : h.objs.size ≤ b) : g0.get? b = none := by
  cases q : g0.get? b with
  | none => rfl
  | some o => exact absurd (Heap.lt_size (F.keep _ _ q)) (Nat.not_lt.mpr hb)
theorem own_one {h : Heap} {I : Addr} {o : Obj} (e : h.get? I = some o) : ownAt h [I] = [(I, o)] := by simp [ownAt, e]
theorem own_two {h : Heap} {I I' : Addr} {o o' : Obj} (e : h.get? I = some o) (e' : h.get? I' = some o') : ownAt h [I, I'] = [(I, o), (I', o')] := by simp [ownAt, e, e']
theorem Cfg.grown (C : Cfg w mean mg mb A₀ base outer g0 env.locals g0 s.heap m news) {h' : Heap} (k : ∀ b o, s.heap.get? b = some o → h'.get? b = some o) : Cfg w mean mg mb A₀ base outer g0 env.locals g0 h' m news :=
  C.moved (wr := []) (fun h => nomatch h) (fun _ h => nomatch h) (fun _ _ h => nomatch h) fun b o _ e => k b o e
/-- for over a list of the ledger -/
theorem list_turns {l : Addr} {lo : Obj} {vs : List Value} {n : Nat} (J : Addr → Obj → Nat → (Str → Option Value) → List (Addr × Obj) → Prop)
    (hh : A.handled = none) (C : Cfg w mean mg mb A₀ base outer g0 env.locals g0 s.heap m news) (hc : lo.cls = .type "list") (hd : lo.data = .seq vs.toArray n)
    (hm : (l, lo) ∈ news) (hst : ∀ i m news, J l lo i m news → (l, lo) ∈ news) (h0 : J l lo 0 m news)
    (turn : ∀ i v m news h₀ h tk I oi, vs[i]? = some v → J l lo i m news → (∀ p ∈ news, p.1 ≠ I) → Cfg w mean mg mb A₀ base outer g0 env.locals h₀ h m ((I, oi) :: news) →
      wpAny (model prog w) A (assign target env v) (fun _ s₂ => wpAny (model prog w) A (execs body env) (LoopPost w mean mg mb A₀ base outer g0 env.locals [I] [(I, oi)] (J l lo (i + 1)) Q { s with heap := h, toks := tk }) E s₂) E { s with heap := h, toks := tk })
    (done : ∀ m news h₀ h tk, J l lo vs.length m news → Cfg w mean mg mb A₀ base outer g0 env.locals h₀ h m news → wpAny (model prog w) A (execs orelse env) Q E { s with heap := h, toks := tk })
    (hE : PassesOwn (model prog w) A env E := by passes_own) : wpAny (model prog w) A (pyIter (.ref l)) (fun it s₂ => FLoop prog w A E env target body orelse Q it s₂) E s := by
  have ha := C.N _ hm
  have hl : s.heap.IsList l vs.toArray := ⟨lo, ha.1, hc, n, hd⟩
  refine wpAny_pyIter_list hl ?_
  have hI := new_at C.F (Nat.le_refl s.heap.objs.size)
  have hlt : l < s.heap.objs.size := Heap.lt_size ha.1
  have hLI : env.locals < s.heap.objs.size := C.F.ns.lt
  have e0 := Heap.get?_push_size s.heap (o := { cls := .type "list_iterator", data := .fields #[.ref l, .int 0 0] }) rfl
  refine for_turns (s := s) (tk₁ := s.toks) (J l lo) [(l, lo)] (KTurns.ofWalks (Walks.list hh s.heap.objs.size l (Nat.ne_of_lt hlt) vs.toArray) fun i v s' Q' E' st hq => letGo_listiter st.1 hq) ?_ ?_ ?_ ?_ h0 ?_ ?_ (C.grown fun b o e => Heap.get?_push_of_some _ e) ?_ ?_ hE
  · intro q
    have q' : env.locals = s.heap.objs.size ∨ env.locals = l := by simpa using q
    rcases q' with z | z
    · exact absurd z (Nat.ne_of_lt hLI)
    · exact ha.2.1 z.symm
  · intro b hb
    rw [List.mem_singleton.mp hb]; exact hI
  · intro b hb
    have q' : b = s.heap.objs.size ∨ b = l := by simpa using hb
    rcases q' with z | z
    · exact .inl (by simp [z])
    · exact .inr (.inl ⟨lo, by simp [z]⟩)
  · intro i m news hJ p hp
    rw [List.mem_singleton.mp hp]; exact hst _ _ _ hJ
  · intro p hp q
    exact absurd (Heap.lt_size (C.N p hp).1) (by rw [List.mem_singleton.mp q]; exact Nat.lt_irrefl _)
  · exact ⟨⟨_, e0, rfl, rfl⟩, hl.at fun o e => Heap.get?_push_of_some _ e⟩
  · rintro i v m news h₀ h tk own hi hP hJ _ off rfl S C'
    obtain ⟨⟨oi, hoi, _⟩, _⟩ := S
    rw [own_one hoi] at C' ⊢
    exact turn i v m news h₀ h tk _ oi (by simpa using hP) hJ (fun p hp z => off p hp (by simp [z])) C'
  · intro m news h₀ h tk hJ C'
    exact done m news h₀ h tk (by simpa using hJ) C'
/-- for over a written tuple -/
theorem tuple_turns {ax : Addr} {lo : Obj} {vs : List Value} {n : Nat} (J : Nat → (Str → Option Value) → List (Addr × Obj) → Prop)
    (hh : A.handled = none) (C : Cfg w mean mg mb A₀ base outer g0 env.locals g0 s.heap m news) (hk : (Kp w.params).lookup ax = some lo) (hc : lo.cls = .type "tuple") (hd' : lo.data = .seq vs.toArray n)
    (h0 : J 0 m news)
    (turn : ∀ i v m news h₀ h tk I oi, vs[i]? = some v → J i m news → (∀ p ∈ news, p.1 ≠ I) → Cfg w mean mg mb A₀ base outer g0 env.locals h₀ h m ((I, oi) :: news) →
      wpAny (model prog w) A (assign target env v) (fun _ s₂ => wpAny (model prog w) A (execs body env) (LoopPost w mean mg mb A₀ base outer g0 env.locals [I] [(I, oi)] (J (i + 1)) Q { s with heap := h, toks := tk }) E s₂) E { s with heap := h, toks := tk })
    (done : ∀ m news h₀ h tk, J vs.length m news → Cfg w mean mg mb A₀ base outer g0 env.locals h₀ h m news → wpAny (model prog w) A (execs orelse env) Q E { s with heap := h, toks := tk })
    (hE : PassesOwn (model prog w) A env E := by passes_own) : wpAny (model prog w) A (pyIter (.ref ax)) (fun it s₂ => FLoop prog w A E env target body orelse Q it s₂) E s := by
  have hg := C.X _ _ hk
  have hax := C.F.keep _ _ hg
  have hlt : ax < s.heap.objs.size := Heap.lt_size hax
  have hLI : env.locals < s.heap.objs.size := C.F.ns.lt
  have ht : s.heap.IsTuple ax vs.toArray := ⟨lo, hax, hc, n, hd'⟩
  refine iter_tuple ht ?_
  have hI := new_at C.F (Nat.le_refl s.heap.objs.size)
  have e0 := Heap.get?_push_size s.heap (o := { cls := .type "tuple_iterator", data := .fields #[.ref ax, .int 0 0] }) rfl
  refine for_turns (s := s) (tk₁ := s.toks) J [] (KTurns.ofWalks (Walks.tuple hh s.heap.objs.size ax (Nat.ne_of_lt hlt) vs.toArray) fun i v s' Q' E' st hq => letGo_tupleiter st.1 hq) ?_ ?_ ?_ ?_ h0 ?_ ?_ (C.grown fun b o e => Heap.get?_push_of_some _ e) ?_ ?_ hE
  · intro q
    have q' : env.locals = s.heap.objs.size ∨ env.locals = ax := by simpa using q
    rcases q' with z | z
    · exact absurd z (Nat.ne_of_lt hLI)
    · exact absurd (Heap.lt_size hg) (Nat.not_lt.mpr (z ▸ C.F.above))
  · intro b hb
    rw [List.mem_singleton.mp hb]; exact hI
  · intro b hb
    have q' : b = s.heap.objs.size ∨ b = ax := by simpa using hb
    rcases q' with z | z
    · exact .inl (by simp [z])
    · exact .inr (.inr ⟨lo, by rw [z]; exact hk⟩)
  · intro i m news hJ p hp
    cases hp
  · intro p hp q
    exact absurd (Heap.lt_size (C.N p hp).1) (by rw [List.mem_singleton.mp q]; exact Nat.lt_irrefl _)
  · exact ⟨⟨_, e0, rfl, rfl⟩, ht.at fun o e => Heap.get?_push_of_some _ e⟩
  · rintro i v m news h₀ h tk own hi hP hJ _ off rfl S C'
    obtain ⟨⟨oi, hoi, _⟩, _⟩ := S
    rw [own_one hoi] at C' ⊢
    exact turn i v m news h₀ h tk _ oi (by simpa using hP) hJ (fun p hp z => off p hp (by simp [z])) C'
  · intro m news h₀ h tk hJ C'
    exact done m news h₀ h tk (by simpa using hJ) C'
/-- for over a tuple of the ledger -/
theorem tupleL_turns {l : Addr} {lo : Obj} {vs : List Value} {n : Nat} (J : Addr → Obj → Nat → (Str → Option Value) → List (Addr × Obj) → Prop)
    (hh : A.handled = none) (C : Cfg w mean mg mb A₀ base outer g0 env.locals g0 s.heap m news) (hc : lo.cls = .type "tuple") (hd : lo.data = .seq vs.toArray n)
    (hm : (l, lo) ∈ news) (hst : ∀ i m news, J l lo i m news → (l, lo) ∈ news) (h0 : J l lo 0 m news)
    (turn : ∀ i v m news h₀ h tk I oi, vs[i]? = some v → J l lo i m news → (∀ p ∈ news, p.1 ≠ I) → Cfg w mean mg mb A₀ base outer g0 env.locals h₀ h m ((I, oi) :: news) →
      wpAny (model prog w) A (assign target env v) (fun _ s₂ => wpAny (model prog w) A (execs body env) (LoopPost w mean mg mb A₀ base outer g0 env.locals [I] [(I, oi)] (J l lo (i + 1)) Q { s with heap := h, toks := tk }) E s₂) E { s with heap := h, toks := tk })
    (done : ∀ m news h₀ h tk, J l lo vs.length m news → Cfg w mean mg mb A₀ base outer g0 env.locals h₀ h m news → wpAny (model prog w) A (execs orelse env) Q E { s with heap := h, toks := tk })
    (hE : PassesOwn (model prog w) A env E := by passes_own) : wpAny (model prog w) A (pyIter (.ref l)) (fun it s₂ => FLoop prog w A E env target body orelse Q it s₂) E s := by
  have ha := C.N _ hm
  have hl : s.heap.IsTuple l vs.toArray := ⟨lo, ha.1, hc, n, hd⟩
  refine iter_tuple hl ?_
  have hI := new_at C.F (Nat.le_refl s.heap.objs.size)
  have hlt : l < s.heap.objs.size := Heap.lt_size ha.1
  have hLI : env.locals < s.heap.objs.size := C.F.ns.lt
  have e0 := Heap.get?_push_size s.heap (o := { cls := .type "tuple_iterator", data := .fields #[.ref l, .int 0 0] }) rfl
  refine for_turns (s := s) (tk₁ := s.toks) (J l lo) [(l, lo)] (KTurns.ofWalks (Walks.tuple hh s.heap.objs.size l (Nat.ne_of_lt hlt) vs.toArray) fun i v s' Q' E' st hq => letGo_tupleiter st.1 hq) ?_ ?_ ?_ ?_ h0 ?_ ?_ (C.grown fun b o e => Heap.get?_push_of_some _ e) ?_ ?_ hE
  · intro q
    have q' : env.locals = s.heap.objs.size ∨ env.locals = l := by simpa using q
    rcases q' with z | z
    · exact absurd z (Nat.ne_of_lt hLI)
    · exact ha.2.1 z.symm
  · intro b hb
    rw [List.mem_singleton.mp hb]; exact hI
  · intro b hb
    have q' : b = s.heap.objs.size ∨ b = l := by simpa using hb
    rcases q' with z | z
    · exact .inl (by simp [z])
    · exact .inr (.inl ⟨lo, by simp [z]⟩)
  · intro i m news hJ p hp
    rw [List.mem_singleton.mp hp]; exact hst _ _ _ hJ
  · intro p hp q
    exact absurd (Heap.lt_size (C.N p hp).1) (by rw [List.mem_singleton.mp q]; exact Nat.lt_irrefl _)
  · exact ⟨⟨_, e0, rfl, rfl⟩, hl.at fun o e => Heap.get?_push_of_some _ e⟩
  · rintro i v m news h₀ h tk own hi hP hJ _ off rfl S C'
    obtain ⟨⟨oi, hoi, _⟩, _⟩ := S
    rw [own_one hoi] at C' ⊢
    exact turn i v m news h₀ h tk _ oi (by simpa using hP) hJ (fun p hp z => off p hp (by simp [z])) C'
  · intro m news h₀ h tk hJ C'
    exact done m news h₀ h tk (by simpa using hJ) C'
/-- for over a range -/
theorem range_turns {r : Addr} {a b c : Int} {t u v : Tok} {n : Nat} {x : Str} {px : Pos} (J : Nat → (Str → Option Value) → List (Addr × Obj) → Prop)
    (hh : A.handled = none) (C : Cfg w mean mg mb A₀ base outer g0 env.locals g0 s.heap m news) (hr : IsRange s.heap r a b c t u v) (hsm : Builtin.Range.small a b c = true) (hn : Builtin.Range.rangeSize a b c = (n : Int))
    (h0 : J 0 m news)
    (turn : ∀ i t m news h₀ h tk I oi, i < n → J i m news → (∀ p ∈ news, p.1 ≠ I) → Cfg w mean mg mb A₀ base outer g0 env.locals h₀ h m ((I, oi) :: news) →
      wpAny (model prog w) A (assign (.Name x px) env (.int (a + i * c) t)) (fun _ s₂ => wpAny (model prog w) A (execs body env) (LoopPost w mean mg mb A₀ base outer g0 env.locals [I] [(I, oi)] (J (i + 1)) Q { s with heap := h, toks := tk }) E s₂) E { s with heap := h, toks := tk })
    (done : ∀ m news h₀ h tk, J n m news → Cfg w mean mg mb A₀ base outer g0 env.locals h₀ h m news → wpAny (model prog w) A (execs orelse env) Q E { s with heap := h, toks := tk })
    (hE : PassesOwn (model prog w) A env E := by passes_own) : wpAny (model prog w) A (pyIter (.ref r)) (fun it s₂ => FLoop prog w A E env (.Name x px) body orelse Q it s₂) E s := by
  refine wpAny_pyIter_range hr hsm ?_
  have hI := new_at C.F (Nat.le_refl s.heap.objs.size)
  have hLI : env.locals < s.heap.objs.size := C.F.ns.lt
  have e0 := Heap.get?_push_size s.heap (o := { cls := .type "range_iterator", data := .fields #[rawInt a, rawInt (Builtin.Range.rangeSize a b c), rawInt c] }) rfl
  refine for_turns (s := s) (tk₁ := s.toks) J [] (KTurns.ofWalks (Walks.range hh s.heap.objs.size a c n) fun i v s' Q' E' st hq => ?_) ?_ ?_ ?_ ?_ h0 ?_ ?_ (C.grown fun b o e => Heap.get?_push_of_some _ e) ?_ ?_ hE
  · unfold letOwnedTupleGo
    exact wpAny_pure hq
  · intro q
    exact absurd (List.mem_singleton.mp q) (Nat.ne_of_lt hLI)
  · intro b hb
    rw [List.mem_singleton.mp hb]; exact hI
  · intro b hb
    exact .inl hb
  · intro i m news hJ p hp
    cases hp
  · intro p hp q
    exact absurd (Heap.lt_size (C.N p hp).1) (by rw [List.mem_singleton.mp q]; exact Nat.lt_irrefl _)
  · show IsRangeIter _ _ _ _ _
    simp only [Int.natCast_zero, Int.zero_mul, Int.add_zero, Int.sub_zero]
    rw [← hn]
    exact e0
  · rintro i v m news h₀ h tk own hi hP hJ _ off rfl S C'
    obtain ⟨t', rfl⟩ := hP
    have hoi : h.get? s.heap.objs.size = some _ := S
    rw [own_one hoi] at C' ⊢
    exact turn i t' m news h₀ h tk _ _ hi hJ (fun p hp z => off p hp (by simp [z])) C'
  · intro m news h₀ h tk hJ C'
    exact done m news h₀ h tk hJ C'
/-- for over enumerate of a written tuple -/
theorem enum_turns {elts : List Expr} {k : Nat} {pos : Pos} {ax : Addr} {lo : Obj} {vs : List Value} {n : Nat} (J : Nat → (Str → Option Value) → List (Addr × Obj) → Prop)
    (hh : A.handled = none) (C : Cfg w mean mg mb A₀ base outer g0 env.locals g0 s.heap m news) (hk : (Kp w.params).lookup ax = some lo) (hc : lo.cls = .type "tuple") (hd' : lo.data = .seq vs.toArray n)
    (h0 : J 0 m news)
    (turn : ∀ i v x T tt m news h₀ h tk e oe I oi, vs[i]? = some x → v = .ref T → h.IsTuple T #[.int (i : Nat) tt, x] → J i m news → (∀ p ∈ news, p.1 ≠ e ∧ p.1 ≠ I) → e ≠ I → Cfg w mean mg mb A₀ base outer g0 env.locals h₀ h m ((e, oe) :: (I, oi) :: news) →
      wpAny (model prog w) A (assign (.Tuple elts k pos) env v) (fun _ s₂ => wpAny (model prog w) A (execs body env) (LoopPost w mean mg mb A₀ base outer g0 env.locals [e, I] [(e, oe), (I, oi)] (J (i + 1)) Q { s with heap := h, toks := tk }) E s₂) E { s with heap := h, toks := tk })
    (done : ∀ m news h₀ h tk, J vs.length m news → Cfg w mean mg mb A₀ base outer g0 env.locals h₀ h m news → wpAny (model prog w) A (execs orelse env) Q E { s with heap := h, toks := tk })
    (hE : PassesOwn (model prog w) A env E := by passes_own) : wpAny (model prog w) A (call (.type "enumerate") [.ref ax]) (fun xv s₁ => wpAny (model prog w) A (pyIter xv) (fun it s₂ => FLoop prog w A E env (.Tuple elts k pos) body orelse Q it s₂) E s₁) E s := by
  have hg := C.X _ _ hk
  have hax := C.F.keep _ _ hg
  have hlt : ax < s.heap.objs.size := Heap.lt_size hax
  have hLI : env.locals < s.heap.objs.size := C.F.ns.lt
  refine enum_tup_call hax hc hd' fun h' hE' hI' hkp => ?_
  refine wpAny_pyIter_enum hE' ?_
  have hz : s.heap.objs.size + 1 ≠ s.heap.objs.size := Nat.succ_ne_self _
  have hh1 : A.in1.handled = none := hh
  refine for_turns (s := s) (tk₁ := s.toks) J [] (KTurns.ofWalksU (WalksT.enumerateD (tup_draws hh1 s.heap.objs.size ax (Nat.ne_of_lt hlt) vs.toArray) (s.heap.objs.size + 1) hz ?_ (List.mem_cons_self ..)).toU) ?_ ?_ ?_ ?_ h0 ?_ ?_ (C.grown hkp) ?_ ?_ hE
  · intro q
    have q' : s.heap.objs.size + 1 = s.heap.objs.size ∨ s.heap.objs.size + 1 = ax := by simpa using q
    rcases q' with z | z
    · exact hz z
    · exact absurd z (Nat.ne_of_gt (Nat.lt_succ_of_lt hlt))
  · intro q
    have q' : env.locals = s.heap.objs.size + 1 ∨ env.locals = s.heap.objs.size ∨ env.locals = ax := by simpa using q
    rcases q' with z | z | z
    · exact absurd z (Nat.ne_of_lt (Nat.lt_succ_of_lt hLI))
    · exact absurd z (Nat.ne_of_lt hLI)
    · exact absurd (Heap.lt_size hg) (Nat.not_lt.mpr (z ▸ C.F.above))
  · intro b hb
    have q' : b = s.heap.objs.size + 1 ∨ b = s.heap.objs.size := by simpa using hb
    rcases q' with z | z
    · rw [z]; exact new_at C.F (Nat.le_succ _)
    · rw [z]; exact new_at C.F (Nat.le_refl _)
  · intro b hb
    have q' : b = s.heap.objs.size + 1 ∨ b = s.heap.objs.size ∨ b = ax := by simpa using hb
    rcases q' with z | z | z
    · exact .inl (by simp [z])
    · exact .inl (by simp [z])
    · exact .inr (.inr ⟨lo, by rw [z]; exact hk⟩)
  · intro i m news hJ p hp
    cases hp
  · intro p hp q
    have hlp : p.1 < s.heap.objs.size := Heap.lt_size (C.N p hp).1
    have q' : p.1 = s.heap.objs.size + 1 ∨ p.1 = s.heap.objs.size := by simpa using q
    rcases q' with z | z
    · exact absurd z (Nat.ne_of_lt (Nat.lt_succ_of_lt hlp))
    · exact absurd z (Nat.ne_of_lt hlp)
  · exact ⟨⟨.none, hE'⟩, hI', ⟨lo, hkp _ _ hax, hc, n, hd'⟩⟩
  · rintro i v m news h₀ h tk own hi hP hJ _ off rfl S C'
    obtain ⟨T, vals, rfl, ⟨tt, x, hx, rfl⟩, hT⟩ := hP
    obtain ⟨⟨old, hoe⟩, ⟨oi, hoi, _⟩, _⟩ := S
    have hoe' : h.get? (s.heap.objs.size + 1) = some _ := hoe
    rw [own_two hoe' hoi] at C' ⊢
    exact turn i _ x T tt m news h₀ h tk _ _ _ oi (by simpa using hx) rfl hT hJ (fun p hp => ⟨fun z => off p hp (by simp [z]), fun z => off p hp (by simp [z])⟩) hz C'
  · intro m news h₀ h tk hJ C'
    exact done m news h₀ h tk (by simpa using hJ) C'
end
/-- names that a frame is known to hold; the rest stays open -/
noncomputable def over : List (Str × Value) → (Str → Option Value) → Str → Option Value
  | [], m => m
  | p :: r, m => fun y => if y = p.1 then some p.2 else over r m y
noncomputable def Holds : List (Str × Value) → (Str → Option Value) → Prop
  | [], _ => True
  | p :: r, m => m p.1 = some p.2 ∧ Holds r m
theorem over_eq : ∀ {l : List (Str × Value)} {m : Str → Option Value}, Holds l m → over l m = m
  | [], _, _ => rfl
  | p :: r, m, h => by
    funext y
    show (if y = p.1 then some p.2 else over r m y) = m y
    rw [over_eq h.2]
    by_cases z : y = p.1
    · rw [if_pos z, z, h.1]
    · rw [if_neg z]
/-- a goal that is led by hand -/
noncomputable def StopHere (p : Prop) : Prop := p
theorem stopHere {p : Prop} (h : StopHere p) : p := h
end Mine
end
section
open PySem PySem.W PyProof.Rows PySem.Calls
namespace Mine
noncomputable def StrPost (x : Str) (v : Value) (nw : List (Addr × Obj)) : Prop := (∃ t, v = .str x t) ∧ nw = []
theorem str_post {x y : Str} {t : Tok} (h : x = y) : StrPost y (.str x t) [] := ⟨⟨t, by rw [h]⟩, rfl⟩
noncomputable def rowsT : List (List (Int × Str)) := [[(40960, Str.ofString "l"), (49152, Str.ofString "s"), (32768, Str.ofString "-"), (24576, Str.ofString "b"), (16384, Str.ofString "d"), (8192, Str.ofString "c"), (4096, Str.ofString "p")], [(256, Str.ofString "r")], [(128, Str.ofString "w")], [(2112, Str.ofString "s"), (2048, Str.ofString "S"), (64, Str.ofString "x")], [(32, Str.ofString "r")], [(16, Str.ofString "w")], [(1032, Str.ofString "s"), (1024, Str.ofString "S"), (8, Str.ofString "x")], [(4, Str.ofString "r")], [(2, Str.ofString "w")], [(513, Str.ofString "t"), (512, Str.ofString "T"), (1, Str.ofString "x")]]
noncomputable def hit (n : Int) (i : Nat) (b : Int) : Bool := if i = 0 then decide (Builtin.bitAnd n 61440 = b) else decide (Builtin.bitAnd n b = b)
noncomputable def rowC (n : Int) (i : Nat) (es : List (Int × Str)) : Str := match es.find? fun p => hit n i p.1 with | some p => p.2 | none => if i = 0 then Str.ofString "?" else Str.ofString "-"
noncomputable def fmL (n : Int) : List Str := rowsT.zipIdx.map fun p => rowC n p.2 p.1
noncomputable def refsT : List Value := [Value.ref 164, Value.ref 166, Value.ref 168, Value.ref 172, Value.ref 174, Value.ref 176, Value.ref 180, Value.ref 182, Value.ref 184, Value.ref 188]
/-- a pair of the table as the written part holds it -/
noncomputable def EntIs (K : Frag) (E : Value) (p : Int × Str) : Prop := ∃ a eo tb tc n, E = .ref a ∧ K.lookup a = some eo ∧ eo.cls = .type "tuple" ∧ eo.data = .seq #[.int p.1 tb, .str p.2 tc] n
noncomputable def AllEnt (K : Frag) : List Value → List (Int × Str) → Prop
  | [], [] => True
  | E :: r, p :: q => EntIs K E p ∧ AllEnt K r q
  | _, _ => False
/-- a row of the table as the written part holds it -/
noncomputable def RowIs (K : Frag) (R : Value) (es : List (Int × Str)) : Prop := ∃ a ro vs n, R = .ref a ∧ K.lookup a = some ro ∧ ro.cls = .type "tuple" ∧ ro.data = .seq (List.toArray vs) n ∧ AllEnt K vs es
noncomputable def AllRow (K : Frag) : List Value → List (List (Int × Str)) → Prop
  | [], [] => True
  | E :: r, p :: q => RowIs K E p ∧ AllRow K r q
  | _, _ => False
theorem EntIs.mk {K : Frag} {a : Addr} {eo : Obj} {b : Int} {c : Str} {tb tc : Tok} {n : Nat} (k : K.lookup a = some eo) (hc : eo.cls = .type "tuple") (hd : eo.data = .seq #[.int b tb, .str c tc] n) : EntIs K (.ref a) (b, c) := ⟨a, eo, tb, tc, n, rfl, k, hc, hd⟩
theorem RowIs.mk {K : Frag} {a : Addr} {ro : Obj} {vs : List Value} {n : Nat} {es : List (Int × Str)} (k : K.lookup a = some ro) (hc : ro.cls = .type "tuple") (hd : ro.data = .seq (List.toArray vs) n) (e : AllEnt K vs es) : RowIs K (.ref a) es := ⟨a, ro, vs, n, rfl, k, hc, hd, e⟩
theorem AllEnt.cons {K : Frag} {E : Value} {r : List Value} {p : Int × Str} {q : List (Int × Str)} (h : EntIs K E p) (t : AllEnt K r q) : AllEnt K (E :: r) (p :: q) := ⟨h, t⟩
theorem AllRow.cons {K : Frag} {E : Value} {r : List Value} {p : List (Int × Str)} {q : List (List (Int × Str))} (h : RowIs K E p) (t : AllRow K r q) : AllRow K (E :: r) (p :: q) := ⟨h, t⟩
theorem AllEnt.nil {K : Frag} : AllEnt K [] [] := trivial
theorem AllRow.nil {K : Frag} : AllRow K [] [] := trivial
theorem AllEnt.at {K : Frag} : ∀ {vs : List Value} {es : List (Int × Str)} {j : Nat} {v : Value}, AllEnt K vs es → vs[j]? = some v → ∃ p, es[j]? = some p ∧ EntIs K v p
  | [], [], _, _, _, e => by simp at e
  | [], _ :: _, _, _, h, _ => h.elim
  | _ :: _, [], _, _, h, _ => h.elim
  | E :: r, p :: q, 0, v, h, e => ⟨p, rfl, by simp at e; exact e ▸ h.1⟩
  | E :: r, p :: q, j + 1, v, h, e => AllEnt.at (vs := r) (es := q) (j := j) (v := v) h.2 (by simpa using e)
theorem AllEnt.len {K : Frag} : ∀ {vs : List Value} {es : List (Int × Str)}, AllEnt K vs es → vs.length = es.length
  | [], [], _ => rfl
  | [], _ :: _, h => h.elim
  | _ :: _, [], h => h.elim
  | _ :: r, _ :: q, h => congrArg (· + 1) (AllEnt.len h.2)
theorem AllRow.at {K : Frag} : ∀ {vs : List Value} {es : List (List (Int × Str))} {j : Nat} {v : Value}, AllRow K vs es → vs[j]? = some v → ∃ p, es[j]? = some p ∧ RowIs K v p
  | [], [], _, _, _, e => by simp at e
  | [], _ :: _, _, _, h, _ => h.elim
  | _ :: _, [], _, _, h, _ => h.elim
  | E :: r, p :: q, 0, v, h, e => ⟨p, rfl, by simp at e; exact e ▸ h.1⟩
  | E :: r, p :: q, j + 1, v, h, e => AllRow.at (vs := r) (es := q) (j := j) (v := v) h.2 (by simpa using e)
theorem rows_are (w : World) : PySem.Challenge.rw_rt0053_01.row.prog = PySem.Challenge.rw_rt0053_01.row.prog → AllRow (Kp w.params) refsT rowsT := by
  k_fill
  intro _
  unfold refsT rowsT
  repeat' (first
    | with_reducible exact AllRow.nil
    | with_reducible exact AllEnt.nil
    | (with_reducible refine AllRow.cons ?_ ?_)
    | (with_reducible refine AllEnt.cons ?_ ?_)
    | (with_reducible refine' RowIs.mk ?k ?c ?d ?_; (case k => k_is); (case c => exact rfl); (case d => exact rfl))
    | (with_reducible refine' EntIs.mk ?k ?c ?d; (case k => k_is); (case c => exact rfl); (case d => exact rfl)))
end Mine
end
section
open PySem PySem.W PyProof.Rows PySem.Calls
namespace Mine
/-- two texts, one by the test -/
noncomputable def IfJoin (a b : Str) (Q : Value → Shared → Prop) (c : Bool) (s : Shared) : Prop := ∀ (x : Str) (t : Tok), x = (if c then a else b) → x.length = 1 → Q (.str x t) { s with toks := s.toks + 1 }
theorem IfJoin.intro {a b : Str} {Q : Value → Shared → Prop} {c : Bool} {s : Shared} (h : ∀ (x : Str) (t : Tok), x = (if c then a else b) → x.length = 1 → Q (.str x t) { s with toks := s.toks + 1 }) : IfJoin a b Q c s := h
theorem ifexp_join {M : Model} {A : Around} {test : Expr} {a b : Str} {k1 k2 : Nat} {p1 p2 pos : Pos} {env : Env} {Q : Value → Shared → Prop} {E : Value → Shared → Prop} {s : Shared} (ha : a.length = 1) (hb : b.length = 1)
    (h : wpAny M A (isTrue test env (eval test env)) (IfJoin a b Q) E s) : wpAny M A (eval (.IfExp test (.Constant (.str a) k1 p1) (.Constant (.str b) k2 p2) pos) env) Q E s :=
  IfExp_ (wpAny_mono h (fun c s₂ j => by
    cases c
    · exact Calls.Constant_str (j b _ rfl hb)
    · exact Calls.Constant_str (j a _ rfl ha)) fun _ _ x => x)
end Mine
end
section
open PySem PySem.W PyProof.Rows PySem.Calls
namespace Mine
/-- two addresses that differ, kept from the closers' eyes -/
noncomputable def NeA (x y : Nat) : Prop := x ≠ y
theorem NeA.out {x y : Nat} (h : NeA x y) : x ≠ y := h
theorem NeA.sym {x y : Nat} (h : NeA x y) : y ≠ x := fun e => h e.symm
/-- a power of two, its number kept from the closers' eyes -/
noncomputable def PowIs (P e : Int) : Prop := P = 2 ^ e.toNat
section
variable {prog : Program} {w : World} {A : Around} {E : Value → Shared → Prop} {s : Shared} {Q : Value → Shared → Prop}
theorem pow_two {e : Int} {t u : Tok} (h0 : 0 ≤ e) (h1 : e ≤ 20) (h : ∀ (P : Int) (t' : Tok), PowIs P e → 1 ≤ P → P ≤ 2000000 → Q (.int P t') { s with toks := s.toks + 1 }) :
    wpAny (model prog w) A (binaryOp .Pow (.int 2 t) (.int e u)) Q E s := by
  have hb : (2 : Int) ^ e.toNat ≤ 2000000 := by
    have h2 : e.toNat ≤ 20 := by omega
    have h3 : (2 : Nat) ^ e.toNat ≤ 2 ^ 20 := Nat.pow_le_pow_right (by decide) h2
    have h4 : ((2 ^ e.toNat : Nat) : Int) ≤ ((2 ^ 20 : Nat) : Int) := Int.ofNat_le.mpr h3
    have h5 : ((2 ^ e.toNat : Nat) : Int) = (2 : Int) ^ e.toNat := by push_cast; rfl
    rw [h5] at h4
    exact Int.le_trans h4 (by decide)
  have ha : (1 : Int) ≤ 2 ^ e.toNat := by
    have h3 : 0 < (2 : Nat) ^ e.toNat := Nat.pow_pos (by decide)
    have h5 : ((2 ^ e.toNat : Nat) : Int) = (2 : Int) ^ e.toNat := by push_cast; rfl
    rw [← h5]; omega
  exact pow_int_small h0 (by omega) (by decide) (h _ _ rfl ha hb)
end
end Mine
end
section
open PySem PySem.W PyProof.Rows PySem.Calls PyProof.Rows.LCg
namespace Mine
/-- what is owed at the end of an element -/
noncomputable def ElemEnd (w : World) (mean : ExcName → Option Value) (mg mb : Str → Option Value) (A₀ : Around) (base : Heap) (outer : List Env) (g0 : Heap) (L : Addr) (m : Str → Option Value) (all : List (Addr × Obj)) (R : Value → Prop) (s₁ : Shared) (v : Value) (s₃ : Shared) : Prop :=
  ∃ h₀' h' tk', s₃ = { s₁ with heap := h', toks := tk' } ∧ Cfg w mean mg mb A₀ base outer g0 L h₀' h' m all ∧ R v
theorem elem_end {w : World} {mean : ExcName → Option Value} {mg mb : Str → Option Value} {A₀ : Around} {base : Heap} {outer : List Env} {g0 : Heap} {L : Addr} {m : Str → Option Value} {all : List (Addr × Obj)} {R : Value → Prop} {s₁ : Shared} {v : Value} {h₀' h' : Heap} {tk' : Tok} (C : Cfg w mean mg mb A₀ base outer g0 L h₀' h' m all) (hR : R v) :
    ElemEnd w mean mg mb A₀ base outer g0 L m all R s₁ v { s₁ with heap := h', toks := tk' } := ⟨h₀', h', tk', rfl, C, hR⟩
section
variable {prog : Program} {w : World} {A : Around} {E : Value → Shared → Prop} {s : Shared} {env : Env} {mean : ExcName → Option Value} {mg mb : Str → Option Value} {A₀ : Around} {base : Heap} {outer : List Env} {g0 : Heap} {m : Str → Option Value} {news : List (Addr × Obj)}
/-- a list's comprehension over pairs, whose element leaves the ledger as it is -/
theorem comp_turns {elt iter : PySem.Expr} {a b : Str} {pa pb tp : Pos} {kk : Nat} {scope : Scope} {cl : List (Str × Addr)} {pos : Pos} {I : Addr} {fp wr : List Addr} {n : Nat} {X : Nat → Value → Value → Prop} {P Md : Nat → Value → Heap → Prop} {St : Nat → Heap → Prop} {RR : Value → Addr → Result → Shared → Prop}
    (R : Nat → Value → Prop)
    (W : KTurns prog w A (.Tuple [.Name a pa, .Name b pb] kk tp) I fp wr n P Md St) (hP : ∀ i v h, P i v h → ∃ T x y, v = .ref T ∧ X i x y ∧ h.IsTuple T #[x, y]) (hh : A.handled = none)
    (hself : ∀ (s' : Shared) (Q' : Value → Shared → Prop) (E' : Value → Shared → Prop), St 0 s'.heap → Q' (.ref I) s' → wpAny (model prog w) A (pyIter (.ref I)) Q' E' s')
    (hn : n ≤ sizeLine) (hL : env.locals ∉ fp) (hw : ∀ b ∈ wr, g0.get? b = none) (hfp : ∀ b ∈ fp, b < s.heap.objs.size)
    (kp : List Addr) (hkf : ∀ b ∈ kp, b ∈ fp) (hkn : ∀ b ∈ kp, g0.get? b = none) (hold : ∀ b ∈ fp, b ∈ wr ++ kp ∨ ∃ o, (b, o) ∈ news)
    (hcell : ∀ y ∈ scope.names, y.2 ≠ .cell) (hkind : scope.kind = .function) (hxa : scope.names.lookup a = some .local) (hxb : scope.names.lookup b = some .local) (hab : ¬ a = b)
    (S0 : St 0 s.heap) (hnw : ∀ p ∈ news, p.1 ∉ wr) (C0 : Cfg w mean mg mb A₀ base outer g0 env.locals g0 s.heap m news)
    (elem : ∀ i x y h₀ h tk C oC m₂ all (E' : Value → Shared → Prop), i < n → X i x y → NsObj oC m₂ → m₂ a = some x → m₂ b = some y → Cfg w mean mg mb A₀ base outer g0 env.locals h₀ h m ((C, oC) :: all) →
      wpAny (model prog w) A (eval elt (compEnvC scope cl C env)) (ElemEnd w mean mg mb A₀ base outer g0 env.locals m ((C, oC) :: all) (R i) { s with heap := h, toks := tk }) E' { s with heap := h, toks := tk })
    (done : ∀ D C h₀ h tk m' ys, ys.length = n → (∀ j y, ys[j]? = some y → R j y) → Cfg w mean mg mb A₀ base outer g0 env.locals h₀ h m ((D, lst ys) :: news) → h.Ns C m' → (∀ p ∈ news, p.1 ≠ D) → C ≠ env.locals → C ≠ D → (∀ p ∈ news, p.1 ≠ C) → g0.get? C = none → RR (.ref D) C (.ok .next) { s with heap := h, toks := tk }) :
    wpAny (model prog w) A (newList []) (fun acc s₃ => wpAny (model prog w) A (newFunctionEnv scope env.globals cl [] env.qual none .none (some env)) (fun cenv s₄ =>
      codeAny (model prog w) A (.compStart (.ListComp elt [⟨.Tuple [.Name a pa, .Name b pb] kk tp, iter, [], 0⟩] scope pos) 0 (.ref I) acc { cenv with scope := relabel scope env }) (RR acc cenv.locals) s₄) E s₃) E s := by
  refine wpAny_newObj_type (wpAny_newFunctionEnv hcell (by intro y hy; simp at hy) (fun h₁ hns₁ hsb₁ => ?_) hkind)
  dsimp only at hns₁ hsb₁ ⊢
  generalize hH2 : s.heap.push { cls := .type "list", dict := none, data := .seq ([] : List Value).toArray } = H2 at hns₁ hsb₁ ⊢
  have hC : H2.objs.size = s.heap.objs.size + 1 := by rw [← hH2, Heap.size_push]
  have up : ∀ b o, s.heap.get? b = some o → h₁.get? b = some o := fun b o e => by
    have hb := Heap.lt_size e
    refine hsb₁.extBut b o (by rw [hC]; exact Nat.ne_of_lt (Nat.lt_succ_of_lt hb)) (Heap.get?_push_of_some _ ?_)
    rw [← hH2]; exact Heap.get?_push_of_some _ e
  have hDC : s.heap.objs.size ≠ H2.objs.size := by rw [hC]; exact Nat.ne_of_lt (Nat.lt_succ_self _)
  have hD1 : h₁.get? s.heap.objs.size = some (lst []) := by
    refine hsb₁.extBut _ _ hDC (Heap.get?_push_of_some _ ?_)
    rw [← hH2]; exact Heap.get?_push_size _ rfl
  have hLs : env.locals < s.heap.objs.size := C0.F.ns.lt
  have gD : g0.get? s.heap.objs.size = none := new_at C0.F (Nat.le_refl _)
  have gC : g0.get? H2.objs.size = none := new_at C0.F (by rw [hC]; exact Nat.le_succ _)
  generalize hDd : s.heap.objs.size = D at *
  generalize hCc : H2.objs.size = C at *
  have hLw : env.locals ∉ wr := fun q => hL (W.sub _ q)
  have nD : ∀ p ∈ news, p.1 ≠ D := fun p hp z => absurd (Heap.lt_size (C0.N p hp).1) (by rw [hDd, z]; exact Nat.lt_irrefl _)
  have nC : ∀ p ∈ news, p.1 ≠ C := fun p hp z => absurd (Heap.lt_size (C0.N p hp).1) (by rw [hDd, z, hC]; exact Nat.not_lt.mpr (Nat.le_succ _))
  have wD : ∀ b ∈ wr, b ≠ D := fun b hb z => absurd (hfp b (W.sub b hb)) (by rw [z]; exact Nat.lt_irrefl _)
  have wC : ∀ b ∈ wr, b ≠ C := fun b hb z => absurd (hfp b (W.sub b hb)) (by rw [z, hC]; exact Nat.not_lt.mpr (Nat.le_succ _))
  have fD : ∀ b ∈ fp, b ≠ D := fun b hb z => absurd (hfp b hb) (by rw [z]; exact Nat.lt_irrefl _)
  have fC : ∀ b ∈ fp, b ≠ C := fun b hb z => absurd (hfp b hb) (by rw [z, hC]; exact Nat.not_lt.mpr (Nat.le_succ _))
  have hDL : D ≠ env.locals := Nat.ne_of_gt hLs
  have hCL : C ≠ env.locals := by rw [hC]; exact Nat.ne_of_gt (Nat.lt_succ_of_lt hLs)
  have C1 : Cfg w mean mg mb A₀ base outer g0 env.locals g0 h₁ m ((D, lst []) :: news) :=
    (C0.moved (wr := []) (fun h => nomatch h) (fun _ h => nomatch h) (fun _ _ h => nomatch h) fun b o _ e => up b o e).more (own := [(D, lst [])]) fun p hp => by
      rw [List.mem_singleton.mp hp]; exact ⟨hD1, hDL, gD⟩
  have S1 : St 0 h₁ := W.frame _ _ _ S0 fun b _ o e => up b o e
  have loop : ∀ s₃ : Shared, s₃ = { s with heap := h₁, toks := s.toks + ([] : List (Str × Value)).length } →
      codeAny (model prog w) A (.compLoop (.ListComp elt [⟨.Tuple [.Name a pa, .Name b pb] kk tp, iter, [], 0⟩] scope pos) 0 (.ref I) (.ref D) (compEnvC scope cl C env)) (RR (.ref D) C) s₃ := by
    rintro s₃ rfl
    refine kcp_loop (fun k s' => ∃ h₀ h tk i ys m', s' = { s with heap := h, toks := tk } ∧ i ≤ n ∧ k = n + 1 - i ∧ ys.length = i ∧ St i h ∧ Cfg w mean mg mb A₀ base outer g0 env.locals h₀ h m ((D, lst ys) :: news) ∧ h.Ns C m' ∧ (∀ j y, ys[j]? = some y → R j y)) ?_ (n + 1)
      ⟨g0, h₁, _, 0, [], _, rfl, Nat.zero_le _, rfl, rfl, S1, C1, hns₁, fun j y e => by simp at e⟩
    rintro k s' ⟨h₀, h, tk, i, ys, m', rfl, hi, rfl, hyl, S, CF, hns, hR⟩
    have hw' : ∀ b ∈ wr, h₀.get? b = none := fun b hb => CF.turn.none_ b (hw b hb)
    have off : ∀ p ∈ (D, lst ys) :: news, p.1 ∉ wr := fun p hp q => by
      rcases List.mem_cons.mp hp with z | z
      · rw [z] at q; exact wD _ q rfl
      · exact hnw p z q
    by_cases hlt : i < n
    · refine W.item i _ _ _ hlt S fun v h₂ tk₂ hM k₂ => ?_
      refine W.go i v _ _ _ hM fun h₃ hPv S₃ k₃ => ?_
      obtain ⟨T, x, y, rfl, hX, hT⟩ := hP i v h₃ hPv
      have C₃ := (CF.moved hLw hw' off k₂).moved hLw hw' off k₃
      have k₂₃ : ∀ b o, b ∉ wr → h.get? b = some o → h₃.get? b = some o := fun b o hb e => k₃ b o hb (k₂ b o hb e)
      refine kcp_assign (env := compEnvC scope cl C env) hh hT (lookup_relabel_local hxa) (lookup_relabel_local hxb) (by simp [compEnvC, relabel, hkind]) (hns.at' fun o e => k₂₃ _ o (fun q => wC _ q rfl) e) fun h₄ tk₄ hn₄ k₄ => ?_
      have hC0 : h₀.get? C = none := CF.turn.none_ C gC
      have C₄ := C₃.moved (wr := [C]) (h' := h₄) (by simpa using Ne.symm hCL) (fun b hb => by rw [List.mem_singleton.mp hb]; exact hC0) (fun p hp q => by
        have q' := List.mem_singleton.mp q
        rcases List.mem_cons.mp hp with z | z
        · rw [z] at q'; exact hDC q'
        · exact nC p z q') fun b o hb e => k₄ b o (fun z => hb (List.mem_singleton.mpr z)) e
      obtain ⟨oC, heC, hoC⟩ := ns_obj hn₄
      have S₄ : St (i + 1) h₄ := W.frame _ _ _ S₃ fun b hb o e => k₄ b o (fC b hb) e
      have C₅ := (C₄.more (own := ownAt h₄ (wr ++ kp)) fun p hp => ⟨(mem_ownAt.mp hp).2, fun q => (List.mem_append.mp (mem_ownAt.mp hp).1).elim (fun z => hLw (q ▸ z)) (fun z => hL (q ▸ hkf _ z)), (List.mem_append.mp (mem_ownAt.mp hp).1).elim (hw' _) (fun z => CF.turn.none_ _ (hkn _ z))⟩).more (own := [(C, oC)]) fun p hp => by
        rw [List.mem_singleton.mp hp]; exact ⟨heC, hCL, hC0⟩
      refine wpAny_mono (elem i x y h₀ h₄ tk₄ C oC _ _ _ hlt hX hoC (by simp [hab]) (by simp) C₅) (fun v s₅ h₅ => ?_) fun _ _ e => e
      obtain ⟨g₅, h₆, tk₆, rfl, C₆, hRv⟩ := h₅
      have zD := (C₆.N (D, lst ys) (.tail _ (List.mem_append_right (ownAt h₄ (wr ++ kp)) (List.Mem.head news)))).1
      refine append_at (hsz := by show ys.toArray.size ≤ sizeLine; rw [List.size_toArray, hyl]; exact Nat.le_trans hi hn) zD fun h₇ hs₇ hD₇ => ?_
      have C₇ : Cfg w mean mg mb A₀ base outer g0 env.locals g₅ h₆ m news := C₆.less fun p hp => .tail _ (List.mem_append_right (ownAt h₄ (wr ++ kp)) (.tail _ hp))
      have gD5 : g₅.get? D = none := C₆.turn.none_ D gD
      have C₈ := (C₇.moved (wr := [D]) (h' := h₇) (by simpa using Ne.symm hDL) (fun b hb => by rw [List.mem_singleton.mp hb]; exact gD5) (fun p hp q => nD p hp (List.mem_singleton.mp q)) fun b o hb e => hs₇.extBut b o (by simpa using hb) e).more (own := [(D, lst (ys ++ [v]))]) fun p hp => by
        rw [List.mem_singleton.mp hp]; exact ⟨hD₇.trans (congrArg some (lst_snoc ys v)), hDL, gD5⟩
      refine ⟨n + 1 - (i + 1), by omega, g₅, h₇, tk₆, i + 1, ys ++ [v], _, rfl, hlt, rfl, by rw [List.length_append, List.length_singleton, hyl], W.frame _ _ _ S₄ fun b hb o e => ?_, C₈, (hoC.ns (C₆.N (C, oC) (.head _)).1).sameBut hs₇ (Ne.symm hDC), fun j y' e => ?_⟩
      · refine hs₇.extBut b o (fD b hb) ?_
        rcases hold b hb with q | ⟨o', q⟩
        · exact (C₆.N (b, o) (show (b, o) ∈ (C, oC) :: (ownAt h₄ (wr ++ kp) ++ (D, lst ys) :: news) from .tail _ (List.mem_append_left _ (mem_ownAt.mpr ⟨q, e⟩)))).1
        · have e1 := (C₄.N _ (.tail _ q)).1
          have e2 := (C₇.N _ q).1
          exact e2.trans (e1.symm.trans e)
      · rw [List.getElem?_append] at e
        split at e
        · exact hR j y' e
        · rename_i hj
          have : j = ys.length := by
            by_cases hz : j - ys.length = 0
            · omega
            · rw [List.getElem?_eq_none (by simp; omega)] at e; cases e
          rw [this, Nat.sub_self] at e
          simp at e
          rw [this, hyl, ← e]; exact hRv
    · have hin : i = n := by omega
      subst hin
      refine W.done _ _ _ S fun h₂ tk₂ k₂ => ?_
      exact done D C h₀ h₂ tk₂ m' ys hyl hR (CF.moved hLw hw' off k₂) (hns.at' fun o e => k₂ _ o (fun q => wC _ q rfl) e) nD hCL (Ne.symm hDC) nC gC
  exact codeAny_compStart_list (loop _ rfl) (hself _ _ _ S1 (loop _ rfl))
end
end Mine
end
section
open PySem PySem.W PyProof.Rows PySem.Calls PyProof.Rows.LCg
namespace Mine
/-- a comprehension whose source is at hand -/
noncomputable def CompK (prog : Program) (w : World) (A : Around) (E : Value → Shared → Prop) (env : Env) (elt iter : PySem.Expr) (a b : Str) (pa pb tp : Pos) (kk : Nat) (scope : Scope) (pos : Pos) (cl : List (Str × Addr)) (Q : Value → Shared → Prop) (xv : Value) (s₁ : Shared) : Prop :=
  wpAny (model prog w) A (pyIter xv) (fun it s₂ => wpAny (model prog w) A (newList []) (fun acc s₃ => wpAny (model prog w) A (newFunctionEnv scope env.globals cl [] env.qual none .none (some env)) (fun cenv s₄ =>
      codeAny (model prog w) A (.compStart (.ListComp elt [⟨.Tuple [.Name a pa, .Name b pb] kk tp, iter, [], 0⟩] scope pos) 0 it acc { cenv with scope := relabel scope env }) (compPost (model prog w) A E none Q acc cenv.locals) s₄) E s₃) E s₂) E s₁
section
variable {prog : Program} {w : World} {A : Around} {E : Value → Shared → Prop} {s : Shared} {env : Env} {mean : ExcName → Option Value} {mg mb : Str → Option Value} {A₀ : Around} {base : Heap} {outer : List Env} {g0 : Heap} {m : Str → Option Value} {news : List (Addr × Obj)}
theorem comp_open {elt iter : PySem.Expr} {a b : Str} {pa pb tp : Pos} {kk : Nat} {scope : Scope} {cl : List (Str × Addr)} {pos : Pos} {Q : Value → Shared → Prop}
    (hclos : closureFor scope env = pure cl) (hkind : scope.kind = .function) (hnames : ∀ y ∈ scope.names, y.2 = .local → scope.names.lookup y.1 = some .local)
    (h : wpAny (model prog w) A (eval iter env) (CompK prog w A E env elt iter a b pa pb tp kk scope pos cl Q) E s) (hs : ∀ x, foldedSetIterable iter env x = pure x) :
    wpAny (model prog w) A (eval (.ListComp elt [⟨.Tuple [.Name a pa, .Name b pb] kk tp, iter, [], 0⟩] scope pos) env) Q E s := by
  rw [eval_ListComp]
  exact wpAny_comprehension_free (use := none) rfl hs hclos hkind hnames h
theorem zip_comp {elt iter : PySem.Expr} {a b : Str} {pa pb tp : Pos} {kk : Nat} {scope : Scope} {cl : List (Str × Addr)} {pos : Pos} {Q : Value → Shared → Prop} {l1 l2 : Addr} {lo1 lo2 : Obj} {xs ys : List Value} {n1 n2 : Nat} (R : Nat → Value → Prop)
    (hh : A.handled = none) (C : Cfg w mean mg mb A₀ base outer g0 env.locals g0 s.heap m news) (hm1 : (l1, lo1) ∈ news) (hm2 : (l2, lo2) ∈ news) (hc1 : lo1.cls = .type "list") (hd1 : lo1.data = .seq xs.toArray n1) (hc2 : lo2.cls = .type "list") (hd2 : lo2.data = .seq ys.toArray n2)
    (hn : min xs.length ys.length ≤ sizeLine)
    (hcell : ∀ y ∈ scope.names, y.2 ≠ .cell) (hkind : scope.kind = .function) (hxa : scope.names.lookup a = some .local) (hxb : scope.names.lookup b = some .local) (hab : ¬ a = b)
    (elem : ∀ i x y h₀ h tk C oC m₂ all (E' : Value → Shared → Prop), xs[i]? = some x → ys[i]? = some y → NsObj oC m₂ → m₂ a = some x → m₂ b = some y → Cfg w mean mg mb A₀ base outer g0 env.locals h₀ h m ((C, oC) :: all) →
      wpAny (model prog w) A (eval elt (compEnvC scope cl C env)) (ElemEnd w mean mg mb A₀ base outer g0 env.locals m ((C, oC) :: all) (R i) { s with heap := h, toks := tk }) E' { s with heap := h, toks := tk })
    (done : ∀ D h₀ h tk zs, zs.length = min xs.length ys.length → (∀ j z, zs[j]? = some z → R j z) → Cfg w mean mg mb A₀ base outer g0 env.locals h₀ h m ((D, lst zs) :: news) → (∀ p ∈ news, p.1 ≠ D) → Q (.ref D) { s with heap := h, toks := tk }) :
    wpAny (model prog w) A (call (.type "zip") [.ref l1, .ref l2]) (CompK prog w A E env elt iter a b pa pb tp kk scope pos cl Q) E s := by
  have a1 := C.N _ hm1
  have a2 := C.N _ hm2
  have hl1 : s.heap.IsList l1 xs.toArray := ⟨lo1, a1.1, hc1, n1, hd1⟩
  have hl2 : s.heap.IsList l2 ys.toArray := ⟨lo2, a2.1, hc2, n2, hd2⟩
  have t1 : l1 < s.heap.objs.size := Heap.lt_size a1.1
  have t2 : l2 < s.heap.objs.size := Heap.lt_size a2.1
  have tL : env.locals < s.heap.objs.size := C.F.ns.lt
  refine call_zip_2 hl1 hl2 fun h' hz hTI hTO hi1 hi2 hsz hk => ?_
  unfold CompK
  refine wpAny_pyIter_zip hz ?_
  have new : ∀ k : Nat, g0.get? (s.heap.objs.size + k) = none := fun k => new_at C.F (Nat.le_add_right _ _)
  have cg : Cfg w mean mg mb A₀ base outer g0 env.locals g0 h' m news := C.grown hk
  refine comp_turns (s := { s with heap := h' }) (X := fun i x y => xs[i]? = some x ∧ ys[i]? = some y) R (KTurns.ofWalksU (WalksT.zip2 hh _ _ _ _ _ l1 l2 (ktu_apart _ _ _ t1 t2) xs.toArray ys.toArray).toU)
    ?_ hh (fun s' Q' E' st hq => (WalksT.zip2 hh _ _ _ _ _ l1 l2 (ktu_apart _ _ _ t1 t2) xs.toArray ys.toArray).self 0 s' Q' E' st hq) (by simpa using hn) ?_ ?_ ?_ [s.heap.objs.size + 2] (fun b hb => by rw [List.mem_singleton.mp hb]; simp) (fun b hb => by rw [List.mem_singleton.mp hb]; exact new 2) ?_ hcell hkind hxa hxb hab ⟨hz, hTI, ⟨_, _, hTO⟩, hi1, hi2, hl1.at fun o e => hk _ o e, hl2.at fun o e => hk _ o e⟩ ?_ cg ?_ ?_
  · rintro i v h ⟨T, vals, rfl, ⟨x, y, hx, hy, rfl⟩, hT⟩
    exact ⟨T, x, y, rfl, ⟨by simpa using hx, by simpa using hy⟩, hT⟩
  · intro q
    have q' : env.locals = s.heap.objs.size + 4 ∨ env.locals = s.heap.objs.size + 2 ∨ env.locals = s.heap.objs.size + 3 ∨ env.locals = s.heap.objs.size ∨ env.locals = s.heap.objs.size + 1 ∨ env.locals = l1 ∨ env.locals = l2 := by simpa using q
    rcases q' with z | z | z | z | z | z | z
    · exact ktu_ne 4 tL z
    · exact ktu_ne 2 tL z
    · exact ktu_ne 3 tL z
    · exact ktu_ne 0 tL z
    · exact ktu_ne 1 tL z
    · exact a1.2.1 z.symm
    · exact a2.2.1 z.symm
  · intro b hb
    have q' : b = s.heap.objs.size + 4 ∨ b = s.heap.objs.size + 3 ∨ b = s.heap.objs.size ∨ b = s.heap.objs.size + 1 := by simpa using hb
    rcases q' with z | z | z | z
    · rw [z]; exact new 4
    · rw [z]; exact new 3
    · rw [z]; exact new 0
    · rw [z]; exact new 1
  · intro b hb
    have q' : b = s.heap.objs.size + 4 ∨ b = s.heap.objs.size + 2 ∨ b = s.heap.objs.size + 3 ∨ b = s.heap.objs.size ∨ b = s.heap.objs.size + 1 ∨ b = l1 ∨ b = l2 := by simpa using hb
    show b < h'.objs.size
    rw [hsz]
    rcases q' with z | z | z | z | z | z | z
    · rw [z]; exact Nat.add_lt_add_left (by decide) _
    · rw [z]; exact Nat.add_lt_add_left (by decide) _
    · rw [z]; exact Nat.add_lt_add_left (by decide) _
    · rw [z]; exact Nat.lt_add_of_pos_right (by decide)
    · rw [z]; exact Nat.add_lt_add_left (by decide) _
    · rw [z]; exact Nat.lt_of_lt_of_le t1 (Nat.le_add_right _ _)
    · rw [z]; exact Nat.lt_of_lt_of_le t2 (Nat.le_add_right _ _)
  · intro b hb
    have q' : b = s.heap.objs.size + 4 ∨ b = s.heap.objs.size + 2 ∨ b = s.heap.objs.size + 3 ∨ b = s.heap.objs.size ∨ b = s.heap.objs.size + 1 ∨ b = l1 ∨ b = l2 := by simpa using hb
    rcases q' with z | z | z | z | z | z | z
    · exact .inl (by simp [z])
    · exact .inl (by simp [z])
    · exact .inl (by simp [z])
    · exact .inl (by simp [z])
    · exact .inl (by simp [z])
    · exact .inr ⟨lo1, by rw [z]; exact hm1⟩
    · exact .inr ⟨lo2, by rw [z]; exact hm2⟩
  · intro p hp q
    have tp : p.1 < s.heap.objs.size := Heap.lt_size (C.N p hp).1
    have q' : p.1 = s.heap.objs.size + 4 ∨ p.1 = s.heap.objs.size + 3 ∨ p.1 = s.heap.objs.size ∨ p.1 = s.heap.objs.size + 1 := by simpa using q
    rcases q' with z | z | z | z
    · exact ktu_ne 4 tp z
    · exact ktu_ne 3 tp z
    · exact ktu_ne 0 tp z
    · exact ktu_ne 1 tp z
  · rintro i x y h₀ h tk C' oC m₂ all E' hi ⟨hx, hy⟩ hns e1 e2 CF
    exact elem i x y h₀ h tk C' oC m₂ all E' hx hy hns e1 e2 CF
  · intro D C' h₀ h tk m' zs hl hR CF hns nD hCL hCD nC gC
    refine ⟨m', hns, fun h'' hs'' => ?_⟩
    have gC' : h₀.get? C' = none := CF.turn.none_ C' gC
    exact done D h₀ h'' tk zs (by simpa using hl) hR (CF.moved (wr := [C']) (by simpa using Ne.symm hCL) (fun b hb => by rw [List.mem_singleton.mp hb]; exact gC') (fun p hp q => by
      have q' := List.mem_singleton.mp q
      rcases List.mem_cons.mp hp with z | z
      · rw [z] at q'; exact hCD q'.symm
      · exact nC p z q') fun b o hb e => hs''.extBut b o (by simpa using hb) e) nD
end
end Mine
end
section
open PySem PySem.W PyProof.Rows PySem.Calls
namespace Mine
/-- what is owed at the end of a while's turn -/
noncomputable def WhilePost (w : World) (mean : ExcName → Option Value) (mg mb : Str → Option Value) (A₀ : Around) (base : Heap) (outer : List Env) (g0 : Heap) (L : Addr) (J : (Str → Option Value) → List (Addr × Obj) → Prop) (Q : Flow → Shared → Prop) (s₁ : Shared) (f : Flow) (s₃ : Shared) : Prop :=
  match f with
  | .ret v => Q (.ret v) s₃
  | .brk => Q .next s₃
  | _ => ∃ h₀' h' tk' m' news', s₃ = { s₁ with heap := h', toks := tk' } ∧ Cfg w mean mg mb A₀ base outer g0 L h₀' h' m' news' ∧ J m' news'
theorem wp_brk {w : World} {mean : ExcName → Option Value} {mg mb : Str → Option Value} {A₀ : Around} {base : Heap} {outer : List Env} {g0 : Heap} {L : Addr} {J : (Str → Option Value) → List (Addr × Obj) → Prop} {Q : Flow → Shared → Prop} {s₁ s₃ : Shared} (h : Q .next s₃) : WhilePost w mean mg mb A₀ base outer g0 L J Q s₁ .brk s₃ := h
theorem wp_end {w : World} {mean : ExcName → Option Value} {mg mb : Str → Option Value} {A₀ : Around} {base : Heap} {outer : List Env} {g0 : Heap} {L : Addr} {J : (Str → Option Value) → List (Addr × Obj) → Prop} {Q : Flow → Shared → Prop} {s₁ : Shared} {h₀' h' : Heap} {tk' : Tok} {m' : Str → Option Value} {all : List (Addr × Obj)} (news' : List (Addr × Obj))
    (C : Cfg w mean mg mb A₀ base outer g0 L h₀' h' m' all) (hs : ∀ p ∈ news', p ∈ all) (hJ : J m' news') : WhilePost w mean mg mb A₀ base outer g0 L J Q s₁ .next { s₁ with heap := h', toks := tk' } := ⟨h₀', h', tk', m', news', rfl, C.less hs, hJ⟩
section
variable {prog : Program} {w : World} {A : Around} {E : Value → Shared → Prop} {s : Shared} {env : Env} {test : Expr} {body orelse : List Stmt} {pos : Pos} {Q : Flow → Shared → Prop} {mean : ExcName → Option Value} {mg mb : Str → Option Value} {A₀ : Around} {base : Heap} {outer : List Env} {g0 : Heap} {m : Str → Option Value} {news : List (Addr × Obj)}
/-- a while whose state is told by J, its number falling -/
theorem while_turns {k0 : Nat} (J : Nat → (Str → Option Value) → List (Addr × Obj) → Prop) (C : Cfg w mean mg mb A₀ base outer g0 env.locals g0 s.heap m news) (h0 : J k0 m news)
    (turn : ∀ k m news h₀ h tk, J k m news → Cfg w mean mg mb A₀ base outer g0 env.locals h₀ h m news →
      wpAny (model prog w) A (isTrue test env (eval test env)) (fun b s₂ => if b then wpAny (model prog w) A (execs body env) (WhilePost w mean mg mb A₀ base outer g0 env.locals (fun m' n' => ∃ k', k' < k ∧ J k' m' n') Q { s with heap := h, toks := tk }) E s₂
        else wpAny (model prog w) A (execs orelse env) Q E s₂) E { s with heap := h, toks := tk })
    (hE : PassesOwn (model prog w) A env E := by passes_own) : wpAny (model prog w) A (exec (.While test body orelse pos) env) Q E s := by
  refine wpAny_While (codeAny_whileLoop (fun k s' => ∃ h₀ h tk m news, s' = { s with heap := h, toks := tk } ∧ Cfg w mean mg mb A₀ base outer g0 env.locals h₀ h m news ∧ J k m news) ?_ k0 ⟨g0, s.heap, s.toks, m, news, rfl, C, h0⟩)
  rintro k s' ⟨h₀, h, tk, m, news, rfl, CF, hJ⟩
  refine wpAny_mono (turn k m news h₀ h tk hJ CF) (fun b s₂ h₂ => ?_) hE
  cases b with
  | false => exact wpAny_mono h₂ (fun _ _ x => x) hE
  | true =>
    refine wpAny_mono h₂ (fun f s₃ h₃ => ?_) hE
    cases f with
    | ret v => exact h₃
    | brk => exact h₃
    | next =>
      obtain ⟨h₀', h', tk', m', news', rfl, C', k', hk, hJ'⟩ := h₃
      exact ⟨k', hk, h₀', h', tk', m', news', rfl, C', hJ'⟩
    | cont =>
      obtain ⟨h₀', h', tk', m', news', rfl, C', k', hk, hJ'⟩ := h₃
      exact ⟨k', hk, h₀', h', tk', m', news', rfl, C', hJ'⟩
end
end Mine
end
section
open PySem PySem.W PyProof.Rows PySem.Calls
namespace Mine
section
variable {prog : Program} {w : World} {A₀ A : Around} {s : Shared} {base h₀ : Heap} {cenv : Env} {outer : List Env} {L : Addr} {m : Str → Option Value} {news rest : List (Addr × Obj)} {K : Frag} {p : Program} {loose : List Str} {mean : ExcName → Option Value} {mg mb : Str → Option Value}
    {R : Result → Shared → Prop} {name qual : Str} {params : Arguments} {body : List Stmt} {scope : Scope} {dV kV doc pm cdv ct oc : Value} {an od : Option Addr} {osl : Array (Option Value)} {f : Addr} {args : Args} {binds : List (Str × Value)}

/-- the frame of a def with a try, made in any frame; the rest of the ledger stands in the callee's ground -/
theorem kx_frame {E : Value → Shared → Prop} (hcf : cenv.frame = some L) (hck : cenv.scope.kind = .function) (B : Below A₀ base outer h₀) (F : Fr h₀ L s.heap m) (X₀ : K.In h₀) (N₀ : News h₀ L s.heap (news ++ rest)) (hnr : ∀ p ∈ news, ∀ q ∈ rest, q.1 ≠ p.1) (T : Top p loose mean mg mb h₀) (XB : K.In base) (TB : Top p loose mean mg mb base)
    (D : KtsDicts (outer.filterMap (·.frame)) h₀) (hA : A.frames = some (cenv :: outer)) (hloc : ∀ y ∈ binds, scope.names.lookup y.1 = some .local)
    (h : ∀ g L' h₁, (∀ q ∈ rest, g.get? q.1 = some q.2) → Fr h₀ L g m → Fr g L' h₁ (fun y => binds.reverse.lookup y) → News g L' h₁ news → Below A base (cenv :: outer) g → K.In g → Top p loose mean mg mb g → KtsDicts ((cenv :: outer).filterMap (·.frame)) g →
      wpAny (model prog w) (A.deeper (envOf qual scope L' f cdv)) (execs body (envOf qual scope L' f cdv))
        (fun fl s' => LeaveS ((cenv :: outer).filterMap (·.frame)) A₀ base outer K p loose mean mg mb h₀ h₀ L m g (fun r s₁ => News h₀ L s₁.heap rest → R r s₁) (match fl with | .ret v => v | _ => .none) s')
        (fun e s' => wpAny (model prog w) (A.deeper (envOf qual scope L' f cdv)) (leaving (envOf qual scope L' f cdv) e) (fun _ s'' => R (.error e) s'') (fun e' s'' => R (.error e') s'') s')
        { s with heap := h₁, toks := s.toks + binds.length })
    (hcell : ∀ x ∈ scope.names, x.2 ≠ .cell) (hk : scope.kind = .function) :
    wpAny (model prog w) A.in1 (newFunctionEnv scope mainGlobals [] binds (qual ++ ".<locals>.") (some f) cdv none builtinsNs) (fun env' s₂ => s₂.heap.NoLimit ∧ codeAny (model prog w) A (.func body env') R s₂) E s := by
  have N : News h₀ L s.heap news := fun p hp => N₀ p (List.mem_append_left _ hp)
  have NR : News h₀ L s.heap rest := fun p hp => N₀ p (List.mem_append_right _ hp)
  have nL₀ : h₀.get? L = none := kts_self F
  have nm : ∀ b o, h₀.get? b = some o → b ∉ news.map (·.1) := fun b o e q => by
    obtain ⟨p, hp, rfl⟩ := List.mem_map.mp q
    rw [(N p hp).2.2] at e; cases e
  have st : h₀.StaysIn (hideAll s.heap (news.map (·.1))) := fun b o e => hideAll_get _ (F.keep b o e) (nm b o e)
  obtain ⟨oL, es, ep, hL, hLd, hLk, hLf⟩ := F.ns
  have nL : L ∉ news.map (·.1) := fun q => by
    obtain ⟨p, hp, e⟩ := List.mem_map.mp q
    exact (N p hp).2.1 e
  have hLg := hideAll_get (news.map (·.1)) hL nL
  have hNs : ∀ (sl : Array (Option Value)) h', h'.get? L = some { oL with slots := sl } → Heap.Ns h' L m := fun sl h' e => ⟨_, es, ep, e, hLd, hLk, hLf⟩
  have hgr : ∀ q ∈ rest, (hideAll s.heap (news.map (·.1))).get? q.1 = some q.2 := fun q hq => hideAll_get _ (NR q hq).1 fun hm => by
    obtain ⟨p, hp, e⟩ := List.mem_map.mp hm
    exact hnr p hp q hq e.symm
  have B₂ : Below A base (cenv :: outer) (hideAll s.heap (news.map (·.1))) := ⟨hA, fun b o e => st b o (B.stays b o e), by
    refine ⟨by rw [hck]; decide, ⟨L, oL, hcf, ?_, hLg, fun vs q => by rw [hLd] at q; cases q⟩, B.frames.of_keeps fun b o e _ => ⟨o, st b o e, rfl⟩⟩
    exact fresh_of_stays B.stays nL₀⟩
  have hfs : ∀ b, b ∈ (cenv :: outer).filterMap (·.frame) → b = L ∨ b ∈ outer.filterMap (·.frame) := fun b hm => by
    obtain ⟨env, he, hf⟩ := List.mem_filterMap.mp hm
    rcases List.mem_cons.mp he with rfl | he
    · rw [hcf] at hf; exact .inl (Option.some.inj hf).symm
    · exact .inr (List.mem_filterMap.mpr ⟨env, he, hf⟩)
  refine wpAny_newFunctionEnv hcell hloc (fun h₁ hns hsb => ⟨(T.nolimit.keeps F.keep).fresh _ hsb, codeAny_func ?_⟩) hk
  have hk₁ : ∀ b o, s.heap.get? b = some o → h₁.get? b = some o := fun b o e => hsb.extBut b o (Nat.ne_of_lt (Heap.lt_size e)) (Heap.get?_push_of_some _ e)
  show wpAny (model prog w) (A.deeper (envOf qual scope s.heap.objs.size f cdv)) (execs body (envOf qual scope s.heap.objs.size f cdv)) _ _ _
  refine wpAny_mono (h _ s.heap.objs.size h₁ hgr ⟨hNs oL.slots _ hLg, st, F.above⟩ ⟨hns, fun b o e => hk₁ b o (of_hideAll _ e), Nat.le_of_eq (hideAll_size _ _)⟩
    (fun p hp => ⟨hk₁ _ _ (N p hp).1, Nat.ne_of_lt (Heap.lt_size (N p hp).1), hideAll_none _ (List.mem_map_of_mem hp)⟩) B₂ (X₀.keeps st) (T.keeps st) (fun b hb => by
      rcases hfs b hb with rfl | hb
      · exact ⟨oL, es, ep, hLg, hLd⟩
      · obtain ⟨o, es', n', ho', hd'⟩ := D b hb
        exact ⟨o, es', n', st b o ho', hd'⟩)) (fun fl s' hl => ?_) fun _ _ y => y
  rcases hl with ⟨L', m', news', F', N', k⟩ | ⟨g', L', m', news', T', F', N', k⟩
  · refine k ⟨hNs oL.slots _ (F'.keep _ _ hLg), fun b o e => F'.keep b o (st b o e), F.above⟩ (fun p hp => ⟨(N' p hp).1, fun q => ?_, ?_⟩) ?_
    · have := (N' p hp).2.2; rw [q, hLg] at this; cases this
    · cases q : h₀.get? p.1 with
      | none => rfl
      | some o => have := (N' p hp).2.2; rw [st _ _ q] at this; cases this
    · exact fun p hp => ⟨F'.keep _ _ (hgr p hp), (NR p hp).2⟩
  obtain ⟨sl, hs⟩ := T'.up hLg
  obtain ⟨T₁, S₁⟩ := kts_turn_at (h := s'.heap) (fs := outer.filterMap (·.frame)) (g := h₀)
    (fun b hb => by
      obtain ⟨_, o, ho', _⟩ := B.frames.mem hb
      exact ⟨o, ho'⟩)
    (fun b o e nmem => F'.keep b o (T'.other b o (st b o e) (fun q => by
      rcases hfs b q with z | z
      · rw [z, nL₀] at e
        cases e
      · exact nmem z)))
    (fun b o e hm => by
      obtain ⟨sl', hs'⟩ := T'.up (st b o e)
      exact ⟨sl', F'.keep _ _ hs'⟩)
  have B₃ : Below A₀ base outer (ktsHeap s'.heap (outer.filterMap (·.frame)) h₀) := ⟨B.stack, fun b o e => T₁.other b o (B.stays b o e) (fun hm => by
    rw [(B.frames.mem hm).1] at e
    cases e), B.frames.of_keeps fun b o e _ => by
    obtain ⟨sl', hs'⟩ := T₁.up e
    exact ⟨_, hs', rfl⟩⟩
  refine k _ T₁ ⟨hNs sl _ (F'.keep _ _ hs), S₁, by rw [T₁.size]; exact F.above⟩ (fun p hp => ⟨(N' p hp).1, fun q => ?_, ?_⟩) B₃ (XB.keeps B₃.stays) (TB.keeps B₃.stays) (D.turn T₁) ?_
  · have := (N' p hp).2.2; rw [q, hs] at this; cases this
  · refine T₁.none_ _ ?_
    cases q : h₀.get? p.1 with
    | none => rfl
    | some o =>
      obtain ⟨sl', hs'⟩ := T'.up (st _ _ q)
      have := (N' p hp).2.2
      rw [hs'] at this
      cases this
  · refine fun p hp => ⟨F'.keep _ _ (T'.other _ _ (hgr p hp) fun q => ?_), (NR p hp).2⟩
    rcases hfs _ q with z | z
    · exact (NR p hp).2.1 z
    · obtain ⟨_, o', ho', _⟩ := B.frames.mem z
      rw [(NR p hp).2.2] at ho'
      cases ho'
/-- a def with a starred parameter, called from any frame -/
theorem kx_rest {vs : List Value} {g₁ : Addr → Option (List (Str × Value))} {bnd : Addr → List (Str × Value)} (hcf : cenv.frame = some L) (hck : cenv.scope.kind = .function) (B : Below A₀ base outer h₀) (F : Fr h₀ L s.heap m) (X₀ : K.In h₀) (N₀ : News h₀ L s.heap (news ++ rest)) (hnr : ∀ p ∈ news, ∀ q ∈ rest, q.1 ≠ p.1) (T : Top p loose mean mg mb h₀) (XB : K.In base) (TB : Top p loose mean mg mb base)
    (D : KtsDicts (outer.filterMap (·.frame)) h₀) (hA : A.frames = some (cenv :: outer))
    (ho : K.lookup f = some ⟨oc, od, .func (fnOf name qual params body scope dV kV doc pm an cdv ct), osl⟩) (hcd : codeIn K cdv qual = true) (hroom : A.depth < recursionLimit)
    (hp : peek1 K ⟨prog, w.params⟩ (bindArgs (fnOf name qual params body scope dV kV doc pm an cdv ct) args) = some (({ cls := .type "tuple", data := .seq vs.toArray } : Obj), g₁))
    (hg : ∀ D, g₁ D = some (bnd D)) (hloc : ∀ D, ∀ y ∈ bnd D, scope.names.lookup y.1 = some .local)
    (h : ∀ Dt g L' h₁, (∀ q ∈ rest, g.get? q.1 = some q.2) → (∀ p ∈ news, p.1 < Dt) → Fr h₀ L g m → Fr g L' h₁ (fun y => (bnd Dt).reverse.lookup y) → News g L' h₁ ((Dt, ({ cls := .type "tuple", data := .seq vs.toArray } : Obj)) :: news) → Below A base (cenv :: outer) g → K.In g → Top p loose mean mg mb g → KtsDicts ((cenv :: outer).filterMap (·.frame)) g →
      wpAny (model prog w) (A.deeper (envOf qual scope L' f cdv)) (execs body (envOf qual scope L' f cdv))
        (fun fl s' => LeaveS ((cenv :: outer).filterMap (·.frame)) A₀ base outer K p loose mean mg mb h₀ h₀ L m g (fun r s₁ => News h₀ L s₁.heap rest → R r s₁) (match fl with | .ret v => v | _ => .none) s')
        (fun e s' => wpAny (model prog w) (A.deeper (envOf qual scope L' f cdv)) (leaving (envOf qual scope L' f cdv) e) (fun _ s'' => R (.error e) s'') (fun e' s'' => R (.error e') s'') s')
        { s with heap := h₁, toks := s.toks + (bnd Dt).length })
    (hco : scope.isCoroutine = false) (hgen : scope.isGenerator = false) (hk : scope.kind = .function)
    (hcell : ∀ x ∈ scope.names, x.2 ≠ .cell) : codeAny (model prog w) A (.call (.ref f) args) R s := by
  refine codeAny_call_function (fd := fnOf name qual params body scope dV kV doc pm an cdv ct) (body := body) hroom ((X₀.keeps F.keep) _ _ ho) rfl hco hgen rfl (codeRec_of (X₀.keeps F.keep) hcd) ?_
  refine wp_of_peek1 (o := ({ cls := .type "tuple", data := .seq vs.toArray } : Obj)) F N₀ (X₀.keeps F.keep) rfl (r := bnd) (fun Dt h' F' N' l => ?_) _ g₁ hp hg
  refine kx_frame (s := { s with heap := h' }) (news := (Dt, ({ cls := .type "tuple", data := .seq vs.toArray } : Obj)) :: news) hcf hck B F' X₀ N' ?_ T XB TB D hA (hloc Dt) (fun g L' h₁ a b c d e f' i j => h Dt g L' h₁ a (fun p hp => l p (List.mem_append_left _ hp)) b c d e f' i j) hcell hk
  intro p hp q hq
  rcases List.mem_cons.mp hp with e | hp
  · rw [e]; exact Nat.ne_of_lt (l q (List.mem_append_right _ hq))
  · exact hnr p hp q hq
end
end Mine
end
section
open PySem PySem.W PyProof.Rows
namespace Mine
/-- the bit at i -/
noncomputable def bt (n : Int) (i : Nat) : Bool := decide (n / 2 ^ i % 2 = 1)
theorem bt_zero {m : Int} {a : Nat} (h : bt m a = false) : m / 2 ^ a % 2 = 0 := by
  have := of_decide_eq_false h
  omega
theorem add_p {m p : Int} (hp : 0 < p) : (m + p) / p = m / p + 1 := by
  have := Int.add_mul_ediv_right m 1 (Int.ne_of_gt hp)
  rwa [Int.one_mul] at this
theorem room_add {n : Int} {k : Nat} (hk : k ≤ 8) (h0 : 0 ≤ n) (h1 : n < 65536) (h : n / 2 ^ k % 2 = 0) : 0 ≤ n + 2 ^ k ∧ n + 2 ^ k < 65536 := by
  have hp : (0 : Int) < 2 ^ k := Int.pow_pos (by decide)
  have e : (65536 : Int) = (2 * 2 ^ (15 - k)) * 2 ^ k := by
    rw [Int.mul_assoc, ← Int.pow_add, show 15 - k + k = 15 by omega]
    rfl
  refine ⟨Int.add_nonneg h0 (Int.le_of_lt hp), ?_⟩
  rw [e] at h1 ⊢
  have h2 := (Int.ediv_lt_iff_lt_mul hp).mpr h1
  refine (Int.ediv_lt_iff_lt_mul hp).mp ?_
  rw [add_p hp]
  omega
theorem and_bit (n : Int) (i : Nat) : decide (Builtin.bitAnd n (2 ^ i) = 2 ^ i) = bt n i := by
  unfold bt
  rw [kbt_bit]
  have hp : (0 : Int) < 2 ^ i := Int.pow_pos (by decide)
  have h2 : n / 2 ^ i % 2 = 0 ∨ n / 2 ^ i % 2 = 1 := by omega
  rcases h2 with h | h
  · rw [h]; simp; omega
  · rw [h]; simp
theorem nat_two_bits (x : Nat) (a b : Nat) (hab : a ≠ b) : (x &&& (2 ^ a ||| 2 ^ b) = (2 ^ a ||| 2 ^ b)) ↔ (x &&& 2 ^ a = 2 ^ a ∧ x &&& 2 ^ b = 2 ^ b) := by
  constructor
  · intro h
    constructor
    · have := congrArg (fun z => z &&& 2 ^ a) h
      simp only [Nat.and_assoc] at this
      have e : (2 ^ a ||| 2 ^ b) &&& 2 ^ a = 2 ^ a := by
        apply Nat.eq_of_testBit_eq; intro i
        simp only [Nat.testBit_and, Nat.testBit_or]
        cases (2 ^ a).testBit i <;> simp
      rw [e] at this; exact this
    · have := congrArg (fun z => z &&& 2 ^ b) h
      simp only [Nat.and_assoc] at this
      have e : (2 ^ a ||| 2 ^ b) &&& 2 ^ b = 2 ^ b := by
        apply Nat.eq_of_testBit_eq; intro i
        simp only [Nat.testBit_and, Nat.testBit_or]
        cases (2 ^ b).testBit i <;> simp
      rw [e] at this; exact this
  · rintro ⟨h1, h2⟩
    rw [Nat.and_or_distrib_left, h1, h2]
theorem and_two {n : Int} (h : 0 ≤ n) (a b : Nat) (c : Int) (hab : a ≠ b) (hc : c = ((2 ^ a ||| 2 ^ b : Nat) : Int)) : decide (Builtin.bitAnd n c = c) = (bt n a && bt n b) := by
  have hpa : ((2 : Int) ^ a) = ((2 ^ a : Nat) : Int) := by simp
  have hpb : ((2 : Int) ^ b) = ((2 ^ b : Nat) : Int) := by simp
  rw [← and_bit, ← and_bit, hc, hpa, hpb, bitAnd_pp h (Int.natCast_nonneg _), bitAnd_pp h (Int.natCast_nonneg _), bitAnd_pp h (Int.natCast_nonneg _)]
  simp only [Int.toNat_natCast, Int.natCast_inj]
  rw [Bool.eq_iff_iff]
  simp only [Bool.and_eq_true, decide_eq_true_eq]
  exact nat_two_bits _ a b hab
theorem nat_top (x : Nat) (h : x < 65536) : x &&& 61440 = x / 4096 * 4096 := by
  have e1 : (x &&& 61440) / 2 ^ 12 = x / 2 ^ 12 &&& 61440 / 2 ^ 12 := Nat.and_div_two_pow
  have e2 : (x &&& 61440) % 2 ^ 12 = (x % 2 ^ 12) &&& (61440 % 2 ^ 12) := Nat.and_mod_two_pow
  have e3 : 61440 / 2 ^ 12 = 2 ^ 4 - 1 := by decide
  have e4 : 61440 % 2 ^ 12 = 0 := by decide
  rw [e3, Nat.and_two_pow_sub_one_eq_mod] at e1
  rw [e4, Nat.and_zero] at e2
  omega
theorem and_top {n : Int} (h : 0 ≤ n) (h1 : n < 65536) : Builtin.bitAnd n 61440 = n / 4096 * 4096 := by
  rw [bitAnd_pp h (by decide)]
  have := nat_top n.toNat (by omega)
  have e : (61440 : Int).toNat = 61440 := rfl
  rw [e, this]
  omega
/-- the sign at place p of the signs of n, as its code -/
noncomputable def sc (n : Int) (p : Nat) : Nat := ((rowC n p (rowsT.getD p [])).cps.toList.headD 0)
theorem row0 {n : Int} (h : 0 ≤ n) (h1 : n < 65536) : rowC n 0 (rowsT.getD 0 []) = Txt.item (Str.ofString "?pc?d?b?-?l?s???") (n / 4096) := by
  have ha : 0 ≤ n / 4096 ∧ n / 4096 < 16 := by omega
  unfold rowC
  have : (fun (p : Int × Str) => hit n 0 p.1) = fun p => decide (n / 4096 * 4096 = p.1) := by
    funext p; unfold hit; rw [if_pos rfl, and_top h h1]
  rw [this]
  generalize n / 4096 = a at ha
  obtain ⟨k, rfl⟩ := Int.eq_ofNat_of_zero_le ha.1
  have hk : k < 16 := by omega
  clear ha this
  revert k
  decide +kernel
theorem row1 (n : Int) (i a : Nat) (b : Int) (c : Str) (hi : i ≠ 0) (hb : b = 2 ^ a) : rowC n i [(b, c)] = if bt n a = true then c else Str.ofString "-" := by
  unfold rowC
  subst hb
  have e : hit n i (2 ^ a) = bt n a := by unfold hit; rw [if_neg hi, and_bit]
  simp only [List.find?_cons, List.find?_nil, e]
  cases bt n a <;> simp [hi]
theorem row3 {n : Int} (h : 0 ≤ n) (i a b : Nat) (v v1 v2 : Int) (c1 c2 c3 : Str) (hi : i ≠ 0) (hab : a ≠ b) (hv : v = ((2 ^ a ||| 2 ^ b : Nat) : Int)) (h1 : v1 = 2 ^ b) (h2 : v2 = 2 ^ a) :
    rowC n i [(v, c1), (v1, c2), (v2, c3)] = if bt n a = true then (if bt n b = true then c1 else c3) else (if bt n b = true then c2 else Str.ofString "-") := by
  unfold rowC
  have e : hit n i v = (bt n a && bt n b) := by unfold hit; rw [if_neg hi, and_two h a b v hab hv]
  have e1 : hit n i v1 = bt n b := by unfold hit; rw [if_neg hi, h1, and_bit]
  have e2 : hit n i v2 = bt n a := by unfold hit; rw [if_neg hi, h2, and_bit]
  simp only [List.find?_cons, List.find?_nil, e, e1, e2]
  cases bt n a <;> cases bt n b <;> simp [hi]
end Mine
end
theorem Mine.lines_a : True := by
  (k_with "call builtin:issubclass" =>
    (k_here; (with_reducible show wpAny _ _ (call (Value.builtin "issubclass") [Value.type "str", Value.ref _]) _ _ _); k_dflt (refine' Mine.kz_issub ?wyN ?wym ?_; (case wyN => k_asm); (case wym => k_mem); k_whole)))
  (k_with "call type:frozenset" =>
    (k_here; k_dflt (first
  | (refine' Mine.kz_fz0 ?wyF ?wyN ?_; (case wyF => k_asm); (case wyN => k_asm); k_whole; intro wyD' wyh' wyo' wyF' wyN' wyhz' wyl1; (try k_lt wyl1); (try k_sweep))
  | (refine' Mine.kz_fz1 ?wyF ?wyN ?wyhh ?wyh1 ?_; (case wyF => k_asm); (case wyN => k_asm); (case wyhh => exact rfl); (case wyh1 => decide); k_whole; intro wyD' wyh' wytk' wyo' wyF' wyN' wyhz' wyl1; (try k_lt wyl1); (try k_sweep)))))
  (k_with "call builtin:frozenset.isdisjoint" =>
    (k_here; k_dflt (refine' Mine.kz_dis ?wyF ?wyN ?wyhh ?wym ?wyS ?_; (case wyF => k_asm); (case wyN => k_asm); (case wyhh => exact rfl); (case wyS => assumption); (case wym => k_mem); k_whole; intro wyh' wytk' wyF' wyN'; (try k_sweep))))
  (k_with "getMethod ref" =>
    (k_here; k_dflt (refine' Mine.kz_method ?wyN ?wym ?wyS ?_; (case wyN => k_asm); (case wyS => assumption); (case wym => k_mem); k_whole)))
  (k_with "compareOp NotIn str ref" =>
    (k_here; k_dflt (refine' Mine.kz_notIn ?wyN ?wym ?wyS ?_; (case wyN => k_asm); (case wyS => assumption); (case wym => k_mem); k_whole)))
  (k_with "call ref" =>
    (k_here; refine wpAny_call ?_; k_dflt (refine' code_def ?wyk1 ?wyk2 ?wyk3 ?wyk4 ?wyk5 ?wykA ?wykF ?wykK ?wyk6 ?wyk7 ?wyk8 ?wyk9 ?wykB ?_ ?wyc2 ?wyc3 ?wyc4 ?wyc5; (case wykA => exact rfl); (case wykF => exact rfl); (case wykK => first | exact rfl | assumption); (case wyk1 => k_asm); (case wyk2 => k_asm); (case wyk3 => k_asm); (case wyk4 => k_asm); (case wyk5 => k_asm); (case wyk6 => refine' Mine.ho_lit ?wyh6 ?wyp6 ?wyb6 ?wys6; (case wyh6 => k_is); (case wyp6 => ((conv => lhs; whnf); try exact rfl)); (case wyb6 => ((conv => lhs; whnf); try exact rfl)); (case wys6 => ((conv => lhs; whnf); try exact rfl))); (case wyk7 => k_is); (case wyk8 => ktr_room); (case wyk9 => exact BindsTo.of_eq rfl); (case wyc5 => decide); (case wykB => exact locs rfl); (case wyc2 => exact rfl); (case wyc3 => exact rfl); (case wyc4 => exact rfl); k_whole; intro wyg' wyL' wyh' wyFG' wyF' wyN' wyB' wyX' wyT'; (try dsimp only); (try k_lift wyB'); (try k_fold))))
  (k_with "call ref" =>
    (k_here; refine wpAny_call ?_; k_dflt (refine' code_nest ?wyk1 ?wyk2 ?wyk3 ?wyk4 ?wyk5 ?wykA ?wykF ?wykK ?wyk6 ?wyk7 ?wyk8 ?wyk9 ?wykB ?_ ?wyc2 ?wyc3 ?wyc4 ?wyc5; (case wykA => exact rfl); (case wykF => exact rfl); (case wykK => exact rfl); (case wyk1 => k_asm); (case wyk2 => k_asm); (case wyk3 => k_asm); (case wyk4 => k_asm); (case wyk5 => k_asm); (case wyk6 => k_mem); (case wyk7 => first | exact codeRec_news (by k_asm) (by k_mem) (by assumption) (by assumption) | exact codeRec_news (by k_asm) (by k_mem) (by assumption) (Mine.cq_eq (by assumption) (by first | rfl | kernel_rfl))); (case wyk8 => ktr_room); (case wyk9 => exact BindsTo.of_eq rfl); (case wyc5 => decide); (case wykB => exact locs rfl); (case wyc2 => exact rfl); (case wyc3 => exact rfl); (case wyc4 => exact rfl); k_whole; intro wyg' wyL' wyh' wyFG' wyF' wyN' wyB' wyX' wyT'; (try dsimp only); (try k_lift wyB'); (try k_fold))))
  (k_with "call builtin:str.index" =>
    (k_here; (with_reducible show wpAny _ _ (call (Value.builtin _) [Value.str _ _, Value.str _ _, Value.int _ _]) _ _ _); k_dflt (first | (refine' Mine.kz_index3_hit ?wyh ?_; (case wyh => assumption); k_whole) | (refine' Mine.kz_index3 ?wyhA ?_ ?_; (case wyhA => exact rfl); all_goals intros))))
  (k_with "call builtin:str.count" =>
    (k_here; (with_reducible show wpAny _ _ (call (Value.builtin _) [Value.str _ _, Value.str _ _, Value.int _ _, Value.int _ _]) _ _ _); k_dflt (refine' Mine.kz_count4 ?_; k_whole; intro wyhc1' wyhc2')))
  (k_with "call builtin:str.rindex" =>
    (k_here; (with_reducible show wpAny _ _ (call (Value.builtin _) [Value.str _ _, Value.str _ _, Value.int _ _, Value.int _ _]) _ _ _); k_dflt (refine' Mine.kz_rindex4 ?wyh ?wyhj ?_; (case wyh => first | assumption | omega); (case wyhj => omega); k_whole; intro wyrk' wyhrk')))
  (k_with "call ref" =>
    (k_here; (with_reducible show wpAny _ _ (call (Value.ref 41) _ _) _ _ _); refine wpAny_call ?_; k_dflt (refine' Mine.kx_def0 ?wycf ?wyck ?wyk1 ?wyk2 ?wyk3 ?wyk4 ?wyk5 ?wyXB ?wyTB ?wyD ?wykA ?wyk6 ?wyk7 ?wyk8 ?wyk9 ?wykB ?_ ?wyc2 ?wyc3 ?wyc4 ?wyc5; (case wykA => exact rfl); (case wycf => exact rfl); (case wyck => first | exact rfl | assumption); (case wyk1 => k_asm); (case wyk2 => k_asm); (case wyk3 => k_asm); (case wyk4 => k_asm); (case wyk5 => k_asm); (case wyXB => assumption); (case wyTB => assumption); (case wyD => assumption); (case wyk6 => refine' Mine.ho_lit ?wyh6 ?wyp6 ?wyb6 ?wys6; (case wyh6 => k_is); (case wyp6 => ((conv => lhs; whnf); try exact rfl)); (case wyb6 => ((conv => lhs; whnf); try exact rfl)); (case wys6 => ((conv => lhs; whnf); try exact rfl))); (case wyk7 => k_is); (case wyk8 => ktr_room); (case wyk9 => exact BindsTo.of_eq rfl); (case wyc5 => decide); (case wykB => exact locs rfl); (case wyc2 => exact rfl); (case wyc3 => exact rfl); (case wyc4 => exact rfl); k_whole; intro wyg' wyL' wyh' wyFG' wyF' wyN' wyB' wyX' wyT' wyD'; (try dsimp only); (try k_lift wyB'); (try k_fold))))
  (k_with "call ref" =>
    (k_here; (with_reducible show wpAny _ _ (call (Value.ref 31) _ _) _ _ _); k_dflt (refine' Mine.kx_new (C := 31) (x := "TOMLDecodeError") ?wyF ?wyN (own_of_in ?wyX ?wyT ?wye ?wyq) PySem.F.excBase_ValueError ?_; (case wyF => k_asm); (case wyN => k_asm); (case wyX => k_asm); (case wyT => k_asm); (case wye => k_is); (case wyq => k_exc); k_whole); intro wyxe' wyxt' wyh' wyF' wyN' wyxne' wyxoff' wyxoft'; (try k_sweep)))
  (k_with "exec Raise some none" =>
    (k_here; (with_reducible show wpAny _ _ (exec (Stmt.Raise (some (Expr.Call (Expr.Name ("suffixed_err" : Str) _) _ _ _)) none _) _) _ _ _); k_dflt (refine' Mine.kx_raiseB (C := 31) (x := "TOMLDecodeError") ?wyK (own_of_in ?wyX ?wyT ?wye ?wyq) PySem.F.excBase_ValueError ?wyhh ?_; (case wyK => assumption); (case wyX => assumption); (case wyT => exact topRead_of (by assumption)); (case wye => k_is); (case wyq => k_exc); (case wyhh => exact rfl); k_whole)))
  (k_with "exec Raise some some" =>
    (k_here; k_dflt (refine' Mine.kx_raiseFromB (C := 31) (x := "TOMLDecodeError") ?wyK (own_of_in ?wyX ?wyT ?wye ?wyq) PySem.F.excBase_ValueError ?wyhh ?_; (case wyK => assumption); (case wyX => assumption); (case wyT => exact topRead_of (by assumption)); (case wye => k_is); (case wyq => k_exc); (case wyhh => exact rfl); k_whole)))
  (k_with "noteFrame ref" =>
    (k_here; (with_reducible rename Heap.NewExc _ _ _ _ => wynxX); (with_reducible rename KtsDicts _ _ => wykdX); k_dflt (refine' Mine.kx_catch ?wyK ?wyF ?wyN wynxX ?wyXB ?wyTB ?wyD ?wyex ?wyhk ?wyhx ?_ ?wyhE; (case wyK => assumption); (case wyF => k_asm); (case wyN => k_asm); (case wyXB => assumption); (case wyTB => assumption); (case wyD => assumption); (case wyex => k_is); (case wyhk => exact rfl); (case wyhx => exact rfl); (case wyhE => passes_own); k_whole); intro wyh' wyg' wyoe' wynT' wynoT' wynvs' wyT' wyF' wyN' wyK' wyX' wyP' wyD' wynd' wynv' wynne' wynof1' wynof2'; clear wynxX; (try k_lift wyK'); (try k_sweep)))
  (k_with "RaiseQ" =>
    (k_dflt (refine' Mine.RaiseQ.intro ?wyB ?wyF ?wyN ?_; (case wyF => k_asm); (case wyN => k_asm); (case wyB => assumption); k_whole)))
  (k_with "RaiseF" =>
    (k_dflt (refine' Mine.RaiseF.intro ?wyB ?wyF ?wyN ?wyhne ?wyhm ?wyhd ?wyh2 ?_; (case wyF => k_asm); (case wyN => k_asm); (case wyB => assumption); (case wyhm => k_mem); (case wyhd => assumption); (case wyh2 => assumption); (case wyhne => (intro q hq; rcases List.mem_cons.mp hq with hz | hz; (rw [hz]; exact Ne.symm (by assumption)); (exact (by assumption : ∀ q ∈ _, q.1 ≠ _) q hz))); k_whole); intro wyh' wyF' wyN'; (try k_sweep)))
  (k_with "leaving ref" =>
    (k_here; (with_reducible rename KtsDicts _ _ => wykdX); k_dflt (first
  | (refine' Mine.kx_leaveN ?wyK ?wyF ?wyN ?wyT0 ?wyhk ?wyhne ?_; (case wyK => assumption); (case wyF => k_asm); (case wyN => k_asm); (case wyT0 => first | (refine' KtsTurn.trans ?wyta ?wytb; (case wytb => assumption); (case wyta => assumption)) | assumption | exact KtsTurn.refl); (case wyhk => exact rfl); (case wyhne => (intro q hq; rcases List.mem_cons.mp hq with hz | hz; (rw [hz]; exact Ne.symm (by assumption)); (exact (by assumption : ∀ q ∈ _, q.1 ≠ _) q hz))); k_whole)
  | (refine' Mine.kx_leaveF ?wyK ?wyF ?wyN ?wyT0 ?wyhk ?wyhne ?_; (case wyK => assumption); (case wyF => k_asm); (case wyN => k_asm); (case wyT0 => first | (refine' KtsTurn.trans ?wyta ?wytb; (case wytb => assumption); (case wyta => assumption)) | assumption | exact KtsTurn.refl); (case wyhk => exact rfl); (case wyhne => (intro q hq; rcases List.mem_cons.mp hq with hz | hz; (rw [hz]; exact Ne.symm (by assumption)); (exact (by assumption : ∀ q ∈ _, q.1 ≠ _) q hz))); k_whole)); intro wyh' wyR' wyU'; (try dsimp only at wyR' wyU' ⊢)))
  (k_with "exec While Compare" =>
    (k_here; (with_reducible rename (Mine.freeOf _ _ = false) => wyhfr'); k_dflt (refine' Mine.kx_skipS (i := "pos") wyhfr' ?wyF ?wyN ?wyhm ?wyb0 ?wyb1 ?wyb2 ?_; (case wyF => k_asm); (case wyN => k_asm); (case wyhm => exact rfl); (case wyb0 => omega); (case wyb1 => omega); (case wyb2 => omega); k_whole); intros))
  (k_with "SkipB" =>
    (refine Mine.SkipB.intro ?_ ?_; all_goals intro wyhb'))
  (k_with "pyReprObj str" =>
    (k_here; k_dflt (refine' pyReprObj_str ?_ ?wyhx; (case wyhx => first | (with_reducible exact Mine.repr_dash) | (refine Mine.repr_item ?_ (by omega) (by omega); assumption)); k_whole)))
  (k_with "And" =>
    ((with_reducible show PySem.Str.length (_ ++ _) ≤ sizeLine ∧ wpAny _ _ (joinParts _ _) _ _ _); (refine And.intro ?wyc ?_; (case wyc => ((with_reducible refine Mine.FitK.top ?_); (repeat' (first | (with_reducible refine Mine.FitK.app ?_ ?_) | (with_reducible refine Mine.FitK.base ?_) | (first | omega | (decide +kernel) | ((with_reducible refine Mine.FitN.top ?_); (repeat' (first | (with_reducible refine Mine.FitN.app ?_ ?_) | (with_reducible refine Mine.FitN.base ?_) | (first | omega | (decide +kernel) | (refine Mine.num_fits (by omega) (by omega)) | (refine Nat.le_trans (Mine.repr_item12 (by assumption) (by omega) (by omega)) (by decide))))))))))); k_whole)))
  (k_with "joinParts" =>
    (k_here; (with_reducible show wpAny _ _ (joinParts _ (evalEach [] _)) _ _ _); k_dflt (refine' joinParts_nil ?_ ?wyhsz; (case wyhsz => ((with_reducible refine Mine.FitK.top ?_); (repeat' (first | (with_reducible refine Mine.FitK.app ?_ ?_) | (with_reducible refine Mine.FitK.base ?_) | (first | omega | (decide +kernel) | ((with_reducible refine Mine.FitN.top ?_); (repeat' (first | (with_reducible refine Mine.FitN.app ?_ ?_) | (with_reducible refine Mine.FitN.base ?_) | (first | omega | (decide +kernel) | (refine Mine.num_fits (by omega) (by omega)) | (refine Nat.le_trans (Mine.repr_item12 (by assumption) (by omega) (by omega)) (by decide))))))))))); k_whole)))
  (k_with "le" =>
    ((with_reducible refine Mine.FitK.top ?_); (repeat' (first | (with_reducible refine Mine.FitK.app ?_ ?_) | (with_reducible refine Mine.FitK.base ?_) | (first | omega | (decide +kernel) | ((with_reducible refine Mine.FitN.top ?_); (repeat' (first | (with_reducible refine Mine.FitN.app ?_ ?_) | (with_reducible refine Mine.FitN.base ?_) | (first | omega | (decide +kernel) | (refine Mine.num_fits (by omega) (by omega)) | (refine Nat.le_trans (Mine.repr_item12 (by assumption) (by omega) (by omega)) (by decide)))))))))))
  trivial
section
open PySem PySem.W PyProof.Rows
namespace Mine
theorem spec_sfx0 (w : World) (mean mg mb) (x : Str) (t : Tok) (p : Int) (t1 : Tok) (y : Str) (t2 : Tok) (hx : x.length ≤ 1000000) (hp : 0 ≤ p) (hp1 : p ≤ x.length) (hy : y.length ≤ 1000) : SpecS w mean mg mb 6 60 false 48 ([(43, tabObj #[])]) [.str x t, .int p t1, .str y t2] SfxPost := by
  unfold SpecS
  k_fill
  intro hdl dp un gd cenv outer A₀ base h₀ L m s rest Q E hzA hcf hck B F X N hnr T XB TB D CH hd hu hret
  refine wpAny_call ?_
  k_dflt (refine' Mine.kx_def ?cf ?ck ?k1 ?k2 ?k3 ?k4 ?knr ?k5 ?XB ?TB ?D ?kA ?k6 ?k7 ?k8 ?k9 ?kB ?_ ?c2 ?c3 ?c4 ?c5; (case kA => exact rfl); (case cf => exact hcf); (case ck => exact hck); (case k1 => exact B); (case k2 => exact F); (case k3 => exact X); (case k4 => exact N); (case knr => exact hnr); (case k5 => exact T); (case XB => assumption); (case TB => assumption); (case D => assumption); (case k6 => refine' Mine.ho_lit ?h6 ?p6 ?b6 ?s6; (case h6 => k_is); (case p6 => ((conv => lhs; whnf); try exact rfl)); (case b6 => ((conv => lhs; whnf); try exact rfl)); (case s6 => ((conv => lhs; whnf); try exact rfl))); (case k7 => k_is); (case k8 => ktr_room); (case k9 => exact BindsTo.of_eq rfl); (case c5 => decide); (case kB => exact locs rfl); (case c2 => exact rfl); (case c3 => exact rfl); (case c4 => exact rfl); k_whole; intro g' L' h' hgr FG' F' N' B' X' T' D'; (try dsimp only); (try k_lift B'); (try k_fold))
  k_steps
  all_goals (
    rename (News _ _ _ ((_, excO _ _) :: _)) => kNN
    obtain ⟨nw, P, N2⟩ := sfx_post kNN (by k_mem) (by k_mem) ⟨by assumption, _, _, by assumption, Eq.trans (by assumption) (congrArg some (congrArg (Value.str · _) (by first | rfl | kernel_rfl)))⟩ (by assumption) (by assumption) (by assumption)
    exact fin hret P N2 hgr (by first | assumption | exact KtsTurn.refl (fs := [])) (by assumption) (by first | assumption | exact KtsTurn.refl) (by assumption) (by assumption) (by assumption) (by assumption) (by assumption) (by assumption) (by assumption))
theorem spec_sfx1 (w : World) (mean mg mb) (x : Str) (t : Tok) (p : Int) (t1 : Tok) (y : Str) (t2 : Tok) (hx : x.length ≤ 1000000) (hp : 0 ≤ p) (hp1 : p ≤ x.length) (hy : y.length ≤ 1000) (c : Addr) (oc : Obj) (hc : CodeC c oc) : SpecS w mean mg mb 6 60 false 48 ([(43, tabC c), (c, oc)]) [.str x t, .int p t1, .str y t2] SfxPost := by
  unfold SpecS
  k_fill
  intro hdl dp un gd cenv outer A₀ base h₀ L m s rest Q E hzA hcf hck B F X N hnr T XB TB D CH hd hu hret
  obtain ⟨l1, vs, tq, d1, d2⟩ := id hc
  refine wpAny_call ?_
  k_dflt (refine' Mine.kx_def ?cf ?ck ?k1 ?k2 ?k3 ?k4 ?knr ?k5 ?XB ?TB ?D ?kA ?k6 ?k7 ?k8 ?k9 ?kB ?_ ?c2 ?c3 ?c4 ?c5; (case kA => exact rfl); (case cf => exact hcf); (case ck => exact hck); (case k1 => exact B); (case k2 => exact F); (case k3 => exact X); (case k4 => exact N); (case knr => exact hnr); (case k5 => exact T); (case XB => assumption); (case TB => assumption); (case D => assumption); (case k6 => refine' Mine.ho_lit ?h6 ?p6 ?b6 ?s6; (case h6 => k_is); (case p6 => ((conv => lhs; whnf); try exact rfl)); (case b6 => ((conv => lhs; whnf); try exact rfl)); (case s6 => ((conv => lhs; whnf); try exact rfl))); (case k7 => k_is); (case k8 => ktr_room); (case k9 => exact BindsTo.of_eq rfl); (case c5 => decide); (case kB => exact locs rfl); (case c2 => exact rfl); (case c3 => exact rfl); (case c4 => exact rfl); k_whole; intro g' L' h' hgr FG' F' N' B' X' T' D'; (try dsimp only); (try k_lift B'); (try k_fold))
  k_steps
  all_goals (
    rename (News _ _ _ ((_, excO _ _) :: _)) => kNN
    obtain ⟨nw, P, N2⟩ := sfx_post kNN (by k_mem) (by k_mem) hc (by assumption) (by assumption) (by assumption)
    exact fin hret P N2 hgr (by first | assumption | exact KtsTurn.refl (fs := [])) (by assumption) (by first | assumption | exact KtsTurn.refl) (by assumption) (by assumption) (by assumption) (by assumption) (by assumption) (by assumption) (by assumption))
theorem spec_sfx (w : World) (mean mg mb) (x : Str) (t : Tok) (p : Int) (t1 : Tok) (y : Str) (t2 : Tok) (hx : x.length ≤ 1000000) (hp : 0 ≤ p) (hp1 : p ≤ x.length) (hy : y.length ≤ 1000) {tab : List (Addr × Obj)} (ht : TabLed tab) : SpecS w mean mg mb 6 60 false 48 tab [.str x t, .int p t1, .str y t2] SfxPost := by
  rcases ht with rfl | ⟨c, oc, rfl, hc⟩
  · exact spec_sfx0 w mean mg mb x t p t1 y t2 hx hp hp1 hy
  · exact spec_sfx1 w mean mg mb x t p t1 y t2 hx hp hp1 hy c oc hc
section
variable {w : World} {mean : ExcName → Option Value} {mg mb : Str → Option Value} {all tab : List (Addr × Obj)} {A : Around} {cenv : Env} {outer : List Env} {A₀ : Around} {base h₀ : Heap} {L : Addr} {m : Str → Option Value} {s : Shared} {Q E : Value → Shared → Prop} {x y : Str} {p : Int} {t t1 t2 : Tok}
theorem kx_sfx0 (hA : A.frames = some (cenv :: outer)) (hcf : cenv.frame = some L) (hck : cenv.scope.kind = .function) (B : Below A₀ base outer h₀) (F : Fr h₀ L s.heap m) (X : (Kp w.params).In h₀) (N : News h₀ L s.heap all) (T : Top topProg LS mean mg mb h₀)
    (XB : (Kp w.params).In base) (TB : Top topProg LS mean mg mb base) (D : KtsDicts (outer.filterMap (·.frame)) h₀) (C : CodeHd base 47 43) (r1 : A.depth + 6 < recursionLimit) (r2 : A.units + 60 < cLine)
    (ht : TabLed tab) (hx : x.length ≤ 1000000) (hp : 0 ≤ p) (hp1 : p ≤ x.length) (hy : y.length ≤ 1000) (hs : ∀ p ∈ tab, p ∈ all)
    (k : ∀ e t tv tab' h' tk' h₀', TabLed tab' → (∀ q ∈ tab', q.1 ≠ e) → e ≠ t → KtsTurn (outer.filterMap (·.frame)) h₀ h₀' → Below A₀ base outer h₀' → Fr h₀' L h' m → (Kp w.params).In h₀' →
      News h₀' L h' ((e, excO 31 t) :: (t, { cls := .type "tuple", data := .seq #[tv] }) :: tab') → Top topProg LS mean mg mb h₀' → KtsDicts (outer.filterMap (·.frame)) h₀' → Q (.ref e) { s with heap := h', toks := tk' }) :
    wpAny (model PySem.Challenge.rw_rt0053_01.row.prog w) A (call (.ref 48) [.str x t, .int p t1, .str y t2]) Q E s :=
  (spec_sfx w mean mg mb x t p t1 y t2 hx hp hp1 hy ht).use (rest := []) (fun z => nomatch z) hA hcf hck B F X N T XB TB D C r1 r2 (fun p hp => hs p (by simpa using hp)) (fun _ _ _ hq => nomatch hq)
    fun v nw h' tk' h₀' P _ T1 B1 F1 X1 N1 TP D1 => by
      obtain ⟨e, t, tv, tab', rfl, rfl, ht', ne, off⟩ := P
      exact k e t tv tab' h' tk' h₀' ht' (fun q hq => (off q hq).1) ne T1 B1 F1 X1 (by simpa using N1) TP D1
theorem kx_sfx1 {e₁ : Addr} {o₁ : Obj} (_hh : A.handled = some (.ref e₁)) (hA : A.frames = some (cenv :: outer)) (hcf : cenv.frame = some L) (hck : cenv.scope.kind = .function) (B : Below A₀ base outer h₀) (F : Fr h₀ L s.heap m) (X : (Kp w.params).In h₀) (N : News h₀ L s.heap all) (T : Top topProg LS mean mg mb h₀)
    (XB : (Kp w.params).In base) (TB : Top topProg LS mean mg mb base) (D : KtsDicts (outer.filterMap (·.frame)) h₀) (C : CodeHd base 47 43) (r1 : A.depth + 6 < recursionLimit) (r2 : A.units + 60 < cLine)
    (ht : TabLed tab) (hx : x.length ≤ 1000000) (hp : 0 ≤ p) (hp1 : p ≤ x.length) (hy : y.length ≤ 1000) (hs : ∀ p ∈ tab, p ∈ all) (me : (e₁, o₁) ∈ all) (hoff : ∀ q ∈ tab, q.1 ≠ e₁)
    (k : ∀ e t tv tab' h' tk' h₀', TabLed tab' → (∀ q ∈ (e₁, o₁) :: tab', q.1 ≠ e) → e ≠ t → KtsTurn (outer.filterMap (·.frame)) h₀ h₀' → Below A₀ base outer h₀' → Fr h₀' L h' m → (Kp w.params).In h₀' →
      News h₀' L h' ((e, excO 31 t) :: (t, { cls := .type "tuple", data := .seq #[tv] }) :: (e₁, o₁) :: tab') → Top topProg LS mean mg mb h₀' → KtsDicts (outer.filterMap (·.frame)) h₀' → Q (.ref e) { s with heap := h', toks := tk' }) :
    wpAny (model PySem.Challenge.rw_rt0053_01.row.prog w) A (call (.ref 48) [.str x t, .int p t1, .str y t2]) Q E s :=
  (spec_sfx w mean mg mb x t p t1 y t2 hx hp hp1 hy ht).use (rest := [(e₁, o₁)]) (fun z => nomatch z) hA hcf hck B F X N T XB TB D C r1 r2 (fun p hp => by
      rcases List.mem_append.mp hp with hp | hp
      · exact hs p hp
      · obtain rfl := List.mem_singleton.mp hp
        exact me) (fun p hp q hq => by
      obtain rfl := List.mem_singleton.mp hq
      exact Ne.symm (hoff p hp))
    fun v nw h' tk' h₀' P off2 T1 B1 F1 X1 N1 TP D1 => by
      obtain ⟨e, t, tv, tab', rfl, rfl, ht', ne, off⟩ := P
      refine k e t tv tab' h' tk' h₀' ht' (fun q hq => ?_) ne T1 B1 F1 X1 (fun q hq => N1 q ?_) TP D1
      · rcases List.mem_cons.mp hq with rfl | hq
        · exact off2 _ (.head _) _ (.head _)
        · exact (off q hq).1
      · simp only [List.mem_cons, List.mem_append, List.not_mem_nil, or_false] at hq ⊢
        rcases hq with h | h | h | h
        · exact .inl (.inl h)
        · exact .inl (.inr (.inl h))
        · exact .inr h
        · exact .inl (.inr (.inr h))
end
end Mine
end
theorem Mine.lines_b : True := by
  (k_with "call ref" =>
    (k_here; (with_reducible show wpAny _ _ (call (Value.ref 48) _ _) _ _ _); k_dflt (refine' Mine.kx_sfx0 ?wyA ?wycf ?wyck ?wyB ?wyF ?wyX ?wyN ?wyT ?wyXB ?wyTB ?wyD ?wyC ?wyr1 ?wyr2 ?wyht ?wyhx ?wyhp ?wyhp1 ?wyhy ?wyhs ?_; (case wyA => exact rfl); (case wycf => first | exact rfl | assumption); (case wyck => first | exact rfl | assumption); (case wyB => k_asm); (case wyF => k_asm); (case wyX => k_asm); (case wyN => k_asm); (case wyT => k_asm); (case wyXB => assumption); (case wyTB => assumption); (case wyD => assumption); (case wyC => assumption); (case wyr1 => first | ktr_room | (simp only [Around.mark, Around.deeper]; omega)); (case wyr2 => first | ktr_room | (simp only [Around.mark, Around.deeper]; omega)); (case wyht => assumption); (case wyhx => assumption); (case wyhp => omega); (case wyhp1 => omega); (case wyhy => first | (with_reducible assumption) | (with_reducible exact Mine.msg1) | (refine Mine.msg2 ?_ (by omega) (by omega); assumption)); (case wyhs => intro p hp; simp only [List.mem_cons]; (repeat (first | exact hp | refine Or.inr ?_))); k_whole); intro wye' wyt' wytv' wytab' wyh' wytk' wyg' wyht' wyhoff' wyhne' wyT' wyB' wyF' wyX' wyN' wyP' wyD'; (try dsimp only); (try k_lift wyB'); (try k_sweep)))
  (k_with "call ref" =>
    (k_here; (with_reducible show wpAny _ _ (call (Value.ref 48) _ _) _ _ _); k_dflt (refine' Mine.kx_sfx1 ?wyhh ?wyA ?wycf ?wyck ?wyB ?wyF ?wyX ?wyN ?wyT ?wyXB ?wyTB ?wyD ?wyC ?wyr1 ?wyr2 ?wyht ?wyhx ?wyhp ?wyhp1 ?wyhy ?wyhs ?wyme ?wyho ?_; (case wyhh => exact rfl); (case wyA => exact rfl); (case wycf => first | exact rfl | assumption); (case wyck => first | exact rfl | assumption); (case wyB => k_asm); (case wyF => k_asm); (case wyX => k_asm); (case wyN => k_asm); (case wyT => k_asm); (case wyXB => assumption); (case wyTB => assumption); (case wyD => assumption); (case wyC => assumption); (case wyr1 => first | ktr_room | (simp only [Around.mark, Around.deeper]; omega)); (case wyr2 => first | ktr_room | (simp only [Around.mark, Around.deeper]; omega)); (case wyht => assumption); (case wyhx => assumption); (case wyhp => omega); (case wyhp1 => omega); (case wyhy => first | (with_reducible assumption) | (with_reducible exact Mine.msg1) | (refine Mine.msg2 ?_ (by omega) (by omega); assumption)); (case wyhs => intro p hp; simp only [List.mem_cons]; (repeat (first | exact hp | refine Or.inr ?_))); (case wyme => k_mem); (case wyho => (intro q hq; exact (by assumption : ∀ q ∈ _, q.1 ≠ _) q (by simp only [List.mem_cons]; (repeat (first | exact hq | refine Or.inr ?_))))); k_whole); intro wye' wyt' wytv' wytab' wyh' wytk' wyg' wyht' wyhoff' wyhne' wyT' wyB' wyF' wyX' wyN' wyP' wyD'; (try dsimp only); (try k_lift wyB'); (try k_sweep)))
  (k_with "formatField str" =>
    (k_here; k_dflt (refine' formatField_str ?_ ?wyhsz; (case wyhsz => first | (with_reducible exact Mine.repr_dash) | (refine Mine.repr_item ?_ (by omega) (by omega); assumption)); k_whole); intro _ _))
  (k_with "call builtin:list.append" =>
    (k_here; (with_reducible show wpAny _ _ (call (Value.builtin _) [Value.ref _, _]) _ _ _); k_dflt (refine' append_K ?wyk1 ?wyk2 ?wyk3 ?_ ?wyz; (case wyk1 => k_asm); (case wyk2 => k_asm); (case wyk3 => k_upd); (case wyz => rw [sizeLine_eq]; simp only [List.size_toArray]; omega); k_whole); intro wyh' wyF' wyN'; (try k_sweep)))
  trivial
section
open PySem PySem.W PyProof.Rows
namespace Mine
noncomputable def freeR (x : Str) (st ps : Int) : Int := if 0 ≤ Txt.find3 x (Str.ofString "-") (st + ps) then if freeOf (fun k => decide (k = Str.ofString "\n")) (Txt.slice x (some (st + ps)) (some (Txt.find3 x (Str.ofString "-") (st + ps)))) = true then Txt.find3 x (Str.ofString "-") (st + ps) - st else 10 else 10
noncomputable def FreePost (x : Str) (st ps : Int) (v : Value) (nw : List (Addr × Obj)) : Prop := (∃ t, v = .int (freeR x st ps) t) ∧ TabLed nw
theorem free_post {x : Str} {st ps k : Int} {t : Tok} {nw : List (Addr × Obj)} (h : freeR x st ps = k) (ht : TabLed nw) : FreePost x st ps (.int k t) nw := ⟨⟨t, by rw [h]⟩, ht⟩
theorem spec_free (w : World) (mean mg mb) (x : Str) (t : Tok) (st : Int) (t1 : Tok) (ps : Int) (t2 : Tok) (hx : x.length ≤ 1000000) (hch : ∀ c ∈ x.cps.toList, c < 16 ^ 8) (hst : -1000000 ≤ st) (hst1 : st ≤ 1000000) (h0 : 0 ≤ st + ps) (h1 : st + ps ≤ x.length) (hf1 : Txt.find3 x (Str.ofString "-") (st + ps) < x.length) (hf2 : 0 ≤ Txt.find3 x (Str.ofString "-") (st + ps) → st + ps ≤ Txt.find3 x (Str.ofString "-") (st + ps)) {tab : List (Addr × Obj)} (ht : TabLed tab) : SpecS w mean mg mb 8 100 true 210 tab [.str x t, .int st t1, .int ps t2] (FreePost x st ps) := by
  unfold SpecS
  k_fill
  intro hdl dp un gd cenv outer A₀ base h₀ L m s rest Q E hzA hcf hck B F X N hnr T XB TB D CH hd hu hret
  obtain rfl := hzA rfl
  refine wpAny_call ?_
  k_dflt (refine' Mine.kx_def ?cf ?ck ?k1 ?k2 ?k3 ?k4 ?knr ?k5 ?XB ?TB ?D ?kA ?k6 ?k7 ?k8 ?k9 ?kB ?_ ?c2 ?c3 ?c4 ?c5; (case kA => exact rfl); (case cf => exact hcf); (case ck => exact hck); (case k1 => exact B); (case k2 => exact F); (case k3 => exact X); (case k4 => exact N); (case knr => exact hnr); (case k5 => exact T); (case XB => assumption); (case TB => assumption); (case D => assumption); (case k6 => refine' Mine.ho_lit ?h6 ?p6 ?b6 ?s6; (case h6 => k_is); (case p6 => ((conv => lhs; whnf); try exact rfl)); (case b6 => ((conv => lhs; whnf); try exact rfl)); (case s6 => ((conv => lhs; whnf); try exact rfl))); (case k7 => k_is); (case k8 => ktr_room); (case k9 => exact BindsTo.of_eq rfl); (case c5 => decide); (case kB => exact locs rfl); (case c2 => exact rfl); (case c3 => exact rfl); (case c4 => exact rfl); k_whole; intro g' L' h' hgr FG' F' N' B' X' T' D'; (try dsimp only); (try k_lift B'); (try k_fold))
  k_steps
  all_goals (
    refine fin (Post := FreePost x st ps) hret (free_post ?_ (by assumption)) ?_ hgr (by first | assumption | exact KtsTurn.refl (fs := [])) (by assumption) (by first | assumption | exact KtsTurn.refl) (by assumption) (by assumption) (by assumption) (by assumption) (by assumption) (by assumption) (by assumption)
    · unfold freeR
      first
        | (rw [if_neg (by omega)])
        | (rw [if_pos (by omega), if_pos (by assumption)])
        | (rw [if_pos (by omega), if_neg (by simp_all)])
    · intro p hp
      first
        | exact hp
        | (simp only [List.mem_cons]; repeat (first | exact hp | refine Or.inr ?_)))
end Mine
end
section
open PySem PySem.W PyProof.Rows
namespace Mine
theorem spec_dirname0 (w : World) (mean mg mb) (t : Tok) : SpecS w mean mg mb 6 60 false 149 [] [.str (Str.ofString "/") t] (StrPost (Str.ofString "/")) := by
  unfold SpecS
  k_fill
  intro hdl dp un gd cenv outer A₀ base h₀ L m s rest Q E hzA hcf hck B F X N hnr T XB TB D CH hd hu hret
  refine wpAny_call ?_
  k_dflt (refine' Mine.kx_def ?cf ?ck ?k1 ?k2 ?k3 ?k4 ?knr ?k5 ?XB ?TB ?D ?kA ?k6 ?k7 ?k8 ?k9 ?kB ?_ ?c2 ?c3 ?c4 ?c5; (case kA => exact rfl); (case cf => exact hcf); (case ck => exact hck); (case k1 => exact B); (case k2 => exact F); (case k3 => exact X); (case k4 => exact N); (case knr => exact hnr); (case k5 => exact T); (case XB => assumption); (case TB => assumption); (case D => assumption); (case k6 => refine' Mine.ho_lit ?h6 ?p6 ?b6 ?s6; (case h6 => k_is); (case p6 => ((conv => lhs; whnf); try exact rfl)); (case b6 => ((conv => lhs; whnf); try exact rfl)); (case s6 => ((conv => lhs; whnf); try exact rfl))); (case k7 => k_is); (case k8 => ktr_room); (case k9 => exact BindsTo.of_eq rfl); (case c5 => decide); (case kB => exact locs rfl); (case c2 => exact rfl); (case c3 => exact rfl); (case c4 => exact rfl); k_whole; intro g' L' h' hgr FG' F' N' B' X' T' D'; (try dsimp only); (try k_lift B'); (try k_fold))
  k_steps
  all_goals
    exact fin hret (str_post (by first | rfl | decide +kernel)) (fun _ h => nomatch h) hgr (by first | assumption | exact KtsTurn.refl (fs := [])) (by assumption) (by first | assumption | exact KtsTurn.refl) (by assumption) (by assumption) (by assumption) (by assumption) (by assumption) (by assumption) (by assumption)
theorem spec_dirname1 (w : World) (mean mg mb) (t : Tok) : SpecS w mean mg mb 6 60 false 149 [] [.str (Str.ofString "/-") t] (StrPost (Str.ofString "/")) := by
  unfold SpecS
  k_fill
  intro hdl dp un gd cenv outer A₀ base h₀ L m s rest Q E hzA hcf hck B F X N hnr T XB TB D CH hd hu hret
  refine wpAny_call ?_
  k_dflt (refine' Mine.kx_def ?cf ?ck ?k1 ?k2 ?k3 ?k4 ?knr ?k5 ?XB ?TB ?D ?kA ?k6 ?k7 ?k8 ?k9 ?kB ?_ ?c2 ?c3 ?c4 ?c5; (case kA => exact rfl); (case cf => exact hcf); (case ck => exact hck); (case k1 => exact B); (case k2 => exact F); (case k3 => exact X); (case k4 => exact N); (case knr => exact hnr); (case k5 => exact T); (case XB => assumption); (case TB => assumption); (case D => assumption); (case k6 => refine' Mine.ho_lit ?h6 ?p6 ?b6 ?s6; (case h6 => k_is); (case p6 => ((conv => lhs; whnf); try exact rfl)); (case b6 => ((conv => lhs; whnf); try exact rfl)); (case s6 => ((conv => lhs; whnf); try exact rfl))); (case k7 => k_is); (case k8 => ktr_room); (case k9 => exact BindsTo.of_eq rfl); (case c5 => decide); (case kB => exact locs rfl); (case c2 => exact rfl); (case c3 => exact rfl); (case c4 => exact rfl); k_whole; intro g' L' h' hgr FG' F' N' B' X' T' D'; (try dsimp only); (try k_lift B'); (try k_fold))
  k_steps
  all_goals
    exact fin hret (str_post (by first | rfl | decide +kernel)) (fun _ h => nomatch h) hgr (by first | assumption | exact KtsTurn.refl (fs := [])) (by assumption) (by first | assumption | exact KtsTurn.refl) (by assumption) (by assumption) (by assumption) (by assumption) (by assumption) (by assumption) (by assumption)
theorem spec_dirname2 (w : World) (mean mg mb) (t : Tok) : SpecS w mean mg mb 6 60 false 149 [] [.str (Str.ofString "/b") t] (StrPost (Str.ofString "/")) := by
  unfold SpecS
  k_fill
  intro hdl dp un gd cenv outer A₀ base h₀ L m s rest Q E hzA hcf hck B F X N hnr T XB TB D CH hd hu hret
  refine wpAny_call ?_
  k_dflt (refine' Mine.kx_def ?cf ?ck ?k1 ?k2 ?k3 ?k4 ?knr ?k5 ?XB ?TB ?D ?kA ?k6 ?k7 ?k8 ?k9 ?kB ?_ ?c2 ?c3 ?c4 ?c5; (case kA => exact rfl); (case cf => exact hcf); (case ck => exact hck); (case k1 => exact B); (case k2 => exact F); (case k3 => exact X); (case k4 => exact N); (case knr => exact hnr); (case k5 => exact T); (case XB => assumption); (case TB => assumption); (case D => assumption); (case k6 => refine' Mine.ho_lit ?h6 ?p6 ?b6 ?s6; (case h6 => k_is); (case p6 => ((conv => lhs; whnf); try exact rfl)); (case b6 => ((conv => lhs; whnf); try exact rfl)); (case s6 => ((conv => lhs; whnf); try exact rfl))); (case k7 => k_is); (case k8 => ktr_room); (case k9 => exact BindsTo.of_eq rfl); (case c5 => decide); (case kB => exact locs rfl); (case c2 => exact rfl); (case c3 => exact rfl); (case c4 => exact rfl); k_whole; intro g' L' h' hgr FG' F' N' B' X' T' D'; (try dsimp only); (try k_lift B'); (try k_fold))
  k_steps
  all_goals
    exact fin hret (str_post (by first | rfl | decide +kernel)) (fun _ h => nomatch h) hgr (by first | assumption | exact KtsTurn.refl (fs := [])) (by assumption) (by first | assumption | exact KtsTurn.refl) (by assumption) (by assumption) (by assumption) (by assumption) (by assumption) (by assumption) (by assumption)
theorem spec_dirname3 (w : World) (mean mg mb) (t : Tok) : SpecS w mean mg mb 6 60 false 149 [] [.str (Str.ofString "/-/-") t] (StrPost (Str.ofString "/-")) := by
  unfold SpecS
  k_fill
  intro hdl dp un gd cenv outer A₀ base h₀ L m s rest Q E hzA hcf hck B F X N hnr T XB TB D CH hd hu hret
  refine wpAny_call ?_
  k_dflt (refine' Mine.kx_def ?cf ?ck ?k1 ?k2 ?k3 ?k4 ?knr ?k5 ?XB ?TB ?D ?kA ?k6 ?k7 ?k8 ?k9 ?kB ?_ ?c2 ?c3 ?c4 ?c5; (case kA => exact rfl); (case cf => exact hcf); (case ck => exact hck); (case k1 => exact B); (case k2 => exact F); (case k3 => exact X); (case k4 => exact N); (case knr => exact hnr); (case k5 => exact T); (case XB => assumption); (case TB => assumption); (case D => assumption); (case k6 => refine' Mine.ho_lit ?h6 ?p6 ?b6 ?s6; (case h6 => k_is); (case p6 => ((conv => lhs; whnf); try exact rfl)); (case b6 => ((conv => lhs; whnf); try exact rfl)); (case s6 => ((conv => lhs; whnf); try exact rfl))); (case k7 => k_is); (case k8 => ktr_room); (case k9 => exact BindsTo.of_eq rfl); (case c5 => decide); (case kB => exact locs rfl); (case c2 => exact rfl); (case c3 => exact rfl); (case c4 => exact rfl); k_whole; intro g' L' h' hgr FG' F' N' B' X' T' D'; (try dsimp only); (try k_lift B'); (try k_fold))
  k_steps
  all_goals
    exact fin hret (str_post (by first | rfl | decide +kernel)) (fun _ h => nomatch h) hgr (by first | assumption | exact KtsTurn.refl (fs := [])) (by assumption) (by first | assumption | exact KtsTurn.refl) (by assumption) (by assumption) (by assumption) (by assumption) (by assumption) (by assumption) (by assumption)
theorem spec_dirname4 (w : World) (mean mg mb) (t : Tok) : SpecS w mean mg mb 6 60 false 149 [] [.str (Str.ofString "/-/b-") t] (StrPost (Str.ofString "/-")) := by
  unfold SpecS
  k_fill
  intro hdl dp un gd cenv outer A₀ base h₀ L m s rest Q E hzA hcf hck B F X N hnr T XB TB D CH hd hu hret
  refine wpAny_call ?_
  k_dflt (refine' Mine.kx_def ?cf ?ck ?k1 ?k2 ?k3 ?k4 ?knr ?k5 ?XB ?TB ?D ?kA ?k6 ?k7 ?k8 ?k9 ?kB ?_ ?c2 ?c3 ?c4 ?c5; (case kA => exact rfl); (case cf => exact hcf); (case ck => exact hck); (case k1 => exact B); (case k2 => exact F); (case k3 => exact X); (case k4 => exact N); (case knr => exact hnr); (case k5 => exact T); (case XB => assumption); (case TB => assumption); (case D => assumption); (case k6 => refine' Mine.ho_lit ?h6 ?p6 ?b6 ?s6; (case h6 => k_is); (case p6 => ((conv => lhs; whnf); try exact rfl)); (case b6 => ((conv => lhs; whnf); try exact rfl)); (case s6 => ((conv => lhs; whnf); try exact rfl))); (case k7 => k_is); (case k8 => ktr_room); (case k9 => exact BindsTo.of_eq rfl); (case c5 => decide); (case kB => exact locs rfl); (case c2 => exact rfl); (case c3 => exact rfl); (case c4 => exact rfl); k_whole; intro g' L' h' hgr FG' F' N' B' X' T' D'; (try dsimp only); (try k_lift B'); (try k_fold))
  k_steps
  all_goals
    exact fin hret (str_post (by first | rfl | decide +kernel)) (fun _ h => nomatch h) hgr (by first | assumption | exact KtsTurn.refl (fs := [])) (by assumption) (by first | assumption | exact KtsTurn.refl) (by assumption) (by assumption) (by assumption) (by assumption) (by assumption) (by assumption) (by assumption)
theorem spec_dirname5 (w : World) (mean mg mb) (t : Tok) : SpecS w mean mg mb 6 60 false 149 [] [.str (Str.ofString "/b/c") t] (StrPost (Str.ofString "/b")) := by
  unfold SpecS
  k_fill
  intro hdl dp un gd cenv outer A₀ base h₀ L m s rest Q E hzA hcf hck B F X N hnr T XB TB D CH hd hu hret
  refine wpAny_call ?_
  k_dflt (refine' Mine.kx_def ?cf ?ck ?k1 ?k2 ?k3 ?k4 ?knr ?k5 ?XB ?TB ?D ?kA ?k6 ?k7 ?k8 ?k9 ?kB ?_ ?c2 ?c3 ?c4 ?c5; (case kA => exact rfl); (case cf => exact hcf); (case ck => exact hck); (case k1 => exact B); (case k2 => exact F); (case k3 => exact X); (case k4 => exact N); (case knr => exact hnr); (case k5 => exact T); (case XB => assumption); (case TB => assumption); (case D => assumption); (case k6 => refine' Mine.ho_lit ?h6 ?p6 ?b6 ?s6; (case h6 => k_is); (case p6 => ((conv => lhs; whnf); try exact rfl)); (case b6 => ((conv => lhs; whnf); try exact rfl)); (case s6 => ((conv => lhs; whnf); try exact rfl))); (case k7 => k_is); (case k8 => ktr_room); (case k9 => exact BindsTo.of_eq rfl); (case c5 => decide); (case kB => exact locs rfl); (case c2 => exact rfl); (case c3 => exact rfl); (case c4 => exact rfl); k_whole; intro g' L' h' hgr FG' F' N' B' X' T' D'; (try dsimp only); (try k_lift B'); (try k_fold))
  k_steps
  all_goals
    exact fin hret (str_post (by first | rfl | decide +kernel)) (fun _ h => nomatch h) hgr (by first | assumption | exact KtsTurn.refl (fs := [])) (by assumption) (by first | assumption | exact KtsTurn.refl) (by assumption) (by assumption) (by assumption) (by assumption) (by assumption) (by assumption) (by assumption)
end Mine
end
theorem Mine.lines_c : True := by
  (k_with "eval IfExp" =>
    (k_here; (with_reducible show wpAny _ _ (eval (Expr.IfExp (Expr.Compare _ _ _ _) (Expr.Constant (Const.str _) _ _) (Expr.Constant (Const.str _) _ _) _) _) _ _ _); k_dflt (refine' Mine.ifexp_join ?wyh1 ?wyh2 ?_; (case wyh1 => decide); (case wyh2 => decide); k_whole)))
  (k_with "IfJoin" =>
    (refine Mine.IfJoin.intro ?_; intro wyx' wyt' wyhx' wyhxl'))
  (k_with "binaryOp FloorDiv int int" =>
    (k_here; (with_reducible show wpAny _ _ (binaryOp _ (Value.int _ _) (Value.int (2 ^ Int.toNat _) _)) _ _ _); simp only [Int.reduceFDiv, Int.reduceAdd, Int.reduceToNat, Int.reducePow, Int.reduceSub]))
  trivial
section
open PySem PySem.W PyProof.Rows
namespace Mine
noncomputable def joinS (a b : Str) : Str := if Txt.endswith a (Str.ofString "/") = true then a ++ b else a ++ (Str.ofString "/" ++ b)
theorem spec_join (w : World) (mean mg mb) (a b : Str) (ta tb : Tok) (ha : a.length ≤ 10) (hb : b.length ≤ 10) (ha0 : a.length ≠ 0) (hs : Txt.startswith b (Str.ofString "/") = false) : SpecS w mean mg mb 6 60 true 142 [] [.str a ta, .str b tb] (StrPost (joinS a b)) := by
  unfold SpecS
  k_fill
  intro hdl dp un gd cenv outer A₀ base h₀ L m s rest Q E hzA hcf hck B F X N hnr T XB TB D CH hd hu hret
  obtain rfl := hzA rfl
  refine wpAny_call ?_
  k_dflt (refine' Mine.kx_rest (vs := [.str b tb]) ?cf ?ck ?k1 ?k2 ?k3 ?k4 ?knr ?k5 ?XB ?TB ?D ?kA ?k6 ?k7 ?k8 ?kP ?kG ?kB ?_ ?c2 ?c3 ?c4 ?c5; (case kA => exact rfl); (case cf => exact hcf); (case ck => exact hck); (case k1 => exact B); (case k2 => exact F); (case k3 => exact X); (case k4 => exact N); (case knr => exact hnr); (case k5 => exact T); (case XB => assumption); (case TB => assumption); (case D => assumption); (case k6 => refine' Mine.ho_lit ?h6 ?p6 ?b6 ?s6; (case h6 => k_is); (case p6 => ((conv => lhs; whnf); try exact rfl)); (case b6 => ((conv => lhs; whnf); try exact rfl)); (case s6 => ((conv => lhs; whnf); try exact rfl))); (case k7 => k_is); (case k8 => ktr_room); (case kP => exact rfl); (case kG => exact fun _ => rfl); (case kB => exact fun _ => locs rfl); (case c5 => decide); (case c2 => exact rfl); (case c3 => exact rfl); (case c4 => exact rfl); k_whole; intro Dt' g' L' h' hgr l1 FG' F' N' B' X' T' D'; (try dsimp only); (try k_lift B'); (try k_fold))
  repeat' (first | (k_unfold; (try dsimp only)) | walk1 | (dsimp only; walk1) | (leave1; walk_say "STEP leave1"; try dsimp only) | fail "no step")
  all_goals first
    | (exfalso; omega)
    | exact fin hret (str_post (by unfold joinS; first | rw [if_pos (by assumption)] | rw [if_neg (by simp_all)])) (fun _ h => nomatch h) hgr (KtsTurn.refl (fs := [])) (by assumption) KtsTurn.refl (by assumption) (by assumption) (by assumption) (by assumption) (by assumption) (by assumption) (by assumption)
end Mine
end
theorem Mine.lines_d : True := by
  (k_with "exec For Tuple Call" =>
    (k_here; k_dflt (refine' Mine.for_open ?_ ?wyhs; (case wyhs => (intro _; rfl)); k_whole)))
  (k_with "exec For Name Call" =>
    (k_here; k_dflt (refine' Mine.for_open ?_ ?wyhs; (case wyhs => (intro _; rfl)); k_whole)))
  (k_with "exec For Name Name" =>
    (k_here; k_dflt (refine' Mine.for_open ?_ ?wyhs; (case wyhs => (intro _; rfl)); k_whole)))
  (k_with "call type:enumerate" =>
    (refine Mine.stopHere ?_))
  (k_with "exec For Tuple Name" =>
    (k_here; k_dflt (refine' Mine.for_open ?_ ?wyhs; (case wyhs => (intro _; rfl)); k_whole)))
  (k_with "pyIter ref" =>
    (refine Mine.stopHere ?_))
  (k_with "LoopPost" =>
    (k_dflt (refine Mine.lp_brk ?_)))
  (k_with "exec For Name Tuple cons nil" =>
    (k_here; k_dflt (refine' Mine.for_open ?_ ?wyhs; (case wyhs => (intro _; rfl)); k_whole)))
  (k_with "exec For Name Tuple" =>
    (k_here; k_dflt (refine' Mine.for_open ?_ ?wyhs; (case wyhs => (intro _; rfl)); k_whole)))
  (k_with "exec For Name Call cons nil" =>
    (k_here; k_dflt (refine' Mine.for_open ?_ ?wyhs; (case wyhs => (intro _; rfl)); k_whole)))
  (k_with "exec For Name Name cons nil" =>
    (k_here; k_dflt (refine' Mine.for_open ?_ ?wyhs; (case wyhs => (intro _; rfl)); k_whole)))
  (k_with "exec For Name List cons nil" =>
    (k_here; k_dflt (refine' Mine.for_open ?_ ?wyhs; (case wyhs => (intro _; rfl)); k_whole)))
  (k_with "exec For Tuple Name cons cons" =>
    (k_here; k_dflt (refine' Mine.for_open ?_ ?wyhs; (case wyhs => (intro _; rfl)); k_whole)))
  (k_with "exec For Tuple Call cons nil" =>
    (k_here; k_dflt (refine' Mine.for_open ?_ ?wyhs; (case wyhs => (intro _; rfl)); k_whole)))
  trivial
section
open PySem PySem.W PyProof.Rows
namespace Mine
noncomputable def fmS (n : Int) : Str := Txt.join (Str.ofString "") (fmL n)
theorem hit_t0 {n : Int} {i : Nat} {b : Int} (h : (i : Int) = 0) (e : Builtin.bitAnd n 61440 = b) : hit n i b = true := by
  unfold hit; rw [if_pos (by omega)]; exact decide_eq_true e
theorem hit_f0 {n : Int} {i : Nat} {b : Int} (h : (i : Int) = 0) (e : Builtin.bitAnd n 61440 ≠ b) : hit n i b = false := by
  unfold hit; rw [if_pos (by omega)]; exact decide_eq_false e
theorem hit_t1 {n : Int} {i : Nat} {b : Int} (h : (i : Int) ≠ 0) (e : Builtin.bitAnd n b = b) : hit n i b = true := by
  unfold hit; rw [if_neg (by omega)]; exact decide_eq_true e
theorem hit_f1 {n : Int} {i : Nat} {b : Int} (h : (i : Int) ≠ 0) (e : Builtin.bitAnd n b ≠ b) : hit n i b = false := by
  unfold hit; rw [if_neg (by omega)]; exact decide_eq_false e
theorem find_first {α : Type} (f : α → Bool) : ∀ (l : List α) (j : Nat) (x : α), l[j]? = some x → (∀ p ∈ l.take j, f p = false) → f x = true → l.find? f = some x
  | [], _, _, h, _, _ => by simp at h
  | a :: r, 0, x, h, _, hx => by
    simp at h
    rw [List.find?_cons, h, hx]
  | a :: r, j + 1, x, h, hm, hx => by
    rw [List.find?_cons, hm a (by simp)]
    exact find_first f r j x (by simpa using h) (fun p hp => hm p (by simp [hp])) hx
theorem row_hit {n : Int} {i j : Nat} {es : List (Int × Str)} {b : Int} {c : Str} (e : es[j]? = some (b, c)) (hm : ∀ p ∈ es.take j, hit n i p.1 = false) (hh : hit n i b = true) : rowC n i es = c := by
  unfold rowC
  rw [find_first (fun p => hit n i p.1) es j (b, c) e hm hh]
theorem row_miss {n : Int} {i : Nat} {es : List (Int × Str)} (hm : ∀ p ∈ es, hit n i p.1 = false) : rowC n i es = if i = 0 then Str.ofString "?" else Str.ofString "-" := by
  unfold rowC
  rw [List.find?_eq_none.mpr (fun p hp => by rw [hm p hp]; decide)]
theorem miss_more {n : Int} {i j : Nat} {es : List (Int × Str)} {b : Int} {c : Str} (e : es[j]? = some (b, c)) (hm : ∀ p ∈ es.take j, hit n i p.1 = false) (hh : hit n i b = false) : ∀ p ∈ es.take (j + 1), hit n i p.1 = false := by
  intro p hp
  rw [List.take_add_one, List.mem_append] at hp
  rcases hp with hp | hp
  · exact hm p hp
  · rw [e] at hp
    have : p = (b, c) := by simpa using hp
    rw [this]; exact hh
theorem strs_snoc : ∀ {vals : List Value} {xs : List Str} {c : Str} {tc : Tok}, StrsAre vals xs → StrsAre (vals ++ [.str c tc]) (xs ++ [c])
  | [], [], c, tc, _ => .cons c tc .nil
  | _ :: _, _ :: _, _, _, .cons x t h => .cons x t (strs_snoc h)
theorem fm_step {n : Int} {i : Nat} {es : List (Int × Str)} {vals : List Value} {c : Str} {tc : Tok} (hs : StrsAre vals ((fmL n).take i)) (he : rowsT[i]? = some es) (hc : rowC n i es = c) : StrsAre (vals ++ [.str c tc]) ((fmL n).take (i + 1)) := by
  have : (fmL n)[i]? = some c := by
    unfold fmL
    rw [List.getElem?_map, List.getElem?_zipIdx, he]
    simp [hc]
  rw [List.take_add_one, this]
  exact strs_snoc hs
theorem row_len {n : Int} {i : Nat} {es : List (Int × Str)} (h : ∀ p ∈ es, p.2.length = 1) : (rowC n i es).length = 1 := by
  unfold rowC
  split
  · rename_i p e
    exact h p (List.mem_of_find?_eq_some e)
  · split <;> decide
theorem fm_ones (n : Int) : ∀ c ∈ fmL n, c.length = 1 := by
  intro c hc
  unfold fmL at hc
  obtain ⟨⟨es, i⟩, hm, rfl⟩ := List.mem_map.mp hc
  refine row_len ?_
  have hm' : es ∈ rowsT := List.fst_mem_of_mem_zipIdx hm
  have all : ∀ r ∈ rowsT, ∀ p ∈ r, p.2.length = 1 := by decide
  exact all es hm'
theorem ones_sum : ∀ {l : List Str}, (∀ c ∈ l, c.length = 1) → (l.map (·.length)).sum = l.length
  | [], _ => rfl
  | c :: r, h => by
    rw [List.map_cons, List.sum_cons, h c (.head _), ones_sum fun x hx => h x (.tail _ hx), List.length_cons]; omega
theorem fm_room (n : Int) : ((fmL n).map (·.length)).sum + (fmL n).length ≤ 1048576 := by
  rw [ones_sum (fm_ones n)]
  show 10 + 10 ≤ 1048576
  decide
noncomputable def FmJ (n : Int) (t : Tok) (i : Nat) (m : Str → Option Value) (nw : List (Addr × Obj)) : Prop :=
  ∃ (P : Addr) (vals : List Value) (k : Nat), Holds [(Str.ofString "perm", .ref P), (Str.ofString "mode", .int n t)] m ∧ nw = [(P, W.listOf vals.toArray k)] ∧ StrsAre vals ((fmL n).take i) ∧ vals.length = i
noncomputable def FmI (n : Int) (t : Tok) (i : Nat) (ti : Tok) (es : List (Int × Str)) (P : Addr) (nw0 : List (Addr × Obj)) (j : Nat) (m : Str → Option Value) (nw : List (Addr × Obj)) : Prop :=
  Holds [(Str.ofString "index", .int (i : Int) ti), (Str.ofString "perm", .ref P), (Str.ofString "mode", .int n t)] m ∧ nw = nw0 ∧ ∀ p ∈ es.take j, hit n i p.1 = false
theorem spec_filemode (w : World) (mean mg mb) (n : Int) (t : Tok) (h0 : 0 ≤ n) (h1 : n < 65536) : SpecS w mean mg mb 6 60 true 196 [] [.int n t] (StrPost (fmS n)) := by
  have RA := rows_are w rfl
  unfold SpecS
  k_fill
  intro hdl dp un gd cenv outer A₀ base h₀ L m s rest Q E hzA hcf hck B F X N hnr T XB TB D CH hd hu hret
  obtain rfl := hzA rfl
  refine wpAny_call ?_
  k_dflt (refine' Mine.kx_def ?cf ?ck ?k1 ?k2 ?k3 ?k4 ?knr ?k5 ?XB ?TB ?D ?kA ?k6 ?k7 ?k8 ?k9 ?kB ?_ ?c2 ?c3 ?c4 ?c5; (case kA => exact rfl); (case cf => exact hcf); (case ck => exact hck); (case k1 => exact B); (case k2 => exact F); (case k3 => exact X); (case k4 => exact N); (case knr => exact hnr); (case k5 => exact T); (case XB => assumption); (case TB => assumption); (case D => assumption); (case k6 => refine' Mine.ho_lit ?h6 ?p6 ?b6 ?s6; (case h6 => k_is); (case p6 => ((conv => lhs; whnf); try exact rfl)); (case b6 => ((conv => lhs; whnf); try exact rfl)); (case s6 => ((conv => lhs; whnf); try exact rfl))); (case k7 => k_is); (case k8 => ktr_room); (case k9 => exact BindsTo.of_eq rfl); (case c5 => decide); (case kB => exact locs rfl); (case c2 => exact rfl); (case c3 => exact rfl); (case c4 => exact rfl); k_whole; intro g' L' h' hgr FG' F' N' B' X' T' D'; (try dsimp only); (try k_lift B'); (try k_fold))
  k_steps
  unfold Mine.StopHere
  rename (News _ _ _ [(_, W.listOf _ _)]) => nP
  k_dflt (refine' enum_turns (vs := refsT) (FmJ n t) ?hh ?C ?k ?c ?d ?h0 ?turn ?done ?hE)
  case hE => passes_own
  case hh => with_unfolding_all rfl
  case C => exact ⟨KtsTurn.refl, by assumption, by assumption, by assumption, nP, by assumption, by assumption⟩
  case k => k_is
  case c => exact rfl
  case d => exact rfl
  case h0 => exact ⟨_, [], 0, ⟨rfl, rfl, trivial⟩, rfl, .nil, rfl⟩
  case turn =>
    rintro i v x T tt m1 nw1 h₀1 h1' tk1 e1 oe1 I1 oi1 hx rfl hT ⟨P, vals, k, hm1, rfl, hSt, hlen⟩ hoff hne C1
    obtain ⟨es, hes, Ra, ro, rvs, rn, rfl, rk, rc, rd, rall⟩ := RA.at hx
    have hi10 : i < 10 := by
      have := (List.getElem?_eq_some_iff.mp hx).1
      simpa [refsT] using this
    rw [← over_eq hm1] at C1
    clear hm1 hx RA
    simp only [over] at C1
    have hPe : @Ne Nat P e1 := (hoff _ (.head _)).1
    have hPI : @Ne Nat P I1 := (hoff _ (.head _)).2
    have hne' : @Ne Nat e1 I1 := hne
    clear hoff hne
    obtain ⟨Tt, B1, F1, X1, N1, T1, D1⟩ := C1
    k_steps
    unfold Mine.StopHere
    k_dflt (refine' tuple_turns (FmI n t i tt es P [(e1, oe1), (I1, oi1), (P, W.listOf vals.toArray k)]) ?hh2 ?C2 rk rc rd ?h02 ?turn2 ?done2 ?hE2)
    case hE2 => passes_own
    case hh2 => with_unfolding_all rfl
    case C2 => exact ⟨KtsTurn.refl, by assumption, by assumption, by assumption, by assumption, by assumption, by assumption⟩
    case h02 => exact ⟨⟨rfl, rfl, rfl, trivial⟩, rfl, fun p hp => nomatch hp⟩
    case turn2 =>
      rintro j v m2 nw2 h₀2 h2' tk2 I2 oi2 hx2 ⟨hm2, rfl, hmiss⟩ hoff2 C2
      obtain ⟨⟨b, c⟩, hbc, Ea, eo, tb, tc, en, rfl, ek, ec, ed⟩ := rall.at hx2
      rw [← over_eq hm2] at C2
      simp only [over] at C2
      have h2a : @Ne Nat e1 I2 := hoff2 _ (.head _)
      have h2b : @Ne Nat I1 I2 := hoff2 _ (.tail _ (.head _))
      have h2c : @Ne Nat P I2 := hoff2 _ (.tail _ (.tail _ (.head _)))
      clear hoff2 hx2 hm2
      obtain ⟨Tt2, B2, F2, X2, N2, T2, D2⟩ := C2
      have hE2 : h2'.IsTuple Ea #[.int b tb, .str c tc] := ⟨eo, F2.keep _ _ (X2 _ _ ek), ec, _, ed⟩
      clear N1 F1 B1 X1 T1 D1 hT
      k_steps
      all_goals first
        | (have hh : hit n i b = false := (by first | exact hit_f0 (by assumption) (by assumption) | exact hit_f1 (by assumption) (by assumption))
           refine lp_end [(e1, oe1), (I1, oi1), (P, W.listOf vals.toArray k)] ⟨Tt2, by assumption, by assumption, by assumption, by assumption, by assumption, by assumption⟩ ?_ ?_ ⟨⟨rfl, rfl, rfl, trivial⟩, rfl, miss_more hbc hmiss hh⟩
           · intro p hp; exact hp
           · intro p hp hq; simp only [List.mem_cons, List.not_mem_nil, or_false] at hp hq; rcases hp with hp | hp | hp <;> (rw [hp] at hq; first | exact hPe hq | exact hPI hq | exact h2a hq | exact h2b hq | exact h2c hq))
        | (have hh : hit n i b = true := (by first | exact hit_t0 (by assumption) (by assumption) | exact hit_t1 (by assumption) (by assumption))
           refine lp_end [(P, W.listOf (vals.toArray.push (.str c tc)) (k + 1))] ⟨Tt.trans Tt2, by assumption, by assumption, by assumption, by assumption, by assumption, by assumption⟩ ?_ ?_ ⟨P, vals ++ [.str c tc], k + 1, ⟨rfl, rfl, trivial⟩, by simp, fm_step hSt hes (row_hit hbc hmiss hh), by simp [hlen]⟩
           · intro p hp; simp only [List.cons_append, List.nil_append, List.mem_cons, List.not_mem_nil, or_false] at hp ⊢; rcases hp with hp | hp | hp <;> simp [hp]
           · intro p hp hq; simp only [List.mem_cons, List.not_mem_nil, or_false] at hp hq; rcases hq with hq | hq <;> (rw [hp] at hq; first | exact hPe hq | exact hPI hq | exact h2a hq | exact h2b hq | exact h2c hq))
    case done2 =>
      rintro m2 nw2 h₀2 h2' tk2 ⟨hm2, rfl, hmiss⟩ C2
      rw [← over_eq hm2] at C2
      simp only [over] at C2
      clear hm2
      obtain ⟨Tt2, B2, F2, X2, N2, T2, D2⟩ := C2
      clear N1 F1 B1 X1 T1 D1 hT
      k_steps
      all_goals (
        have hr := row_miss (n := n) (i := i) (es := es) (by rw [rall.len, List.take_length] at hmiss; exact hmiss)
        obtain ⟨c9, tq, hc9, hN9⟩ : ∃ c tq, rowC n i es = c ∧ News h₀2 _ _ [(e1, oe1), (I1, oi1), (P, W.listOf (vals.toArray.push (.str c tq)) (k + 1))] := by
          first
            | exact ⟨Str.ofString "?", _, by rw [hr, if_pos (by omega)], by assumption⟩
            | exact ⟨Str.ofString "-", _, by rw [hr, if_neg (by omega)], by assumption⟩
        refine lp_end [(P, W.listOf (vals.toArray.push (.str c9 tq)) (k + 1))] ⟨Tt.trans Tt2, by assumption, by assumption, by assumption, hN9, by assumption, by assumption⟩ ?_ ?_ ⟨P, vals ++ [.str c9 tq], k + 1, ⟨rfl, rfl, trivial⟩, by simp, fm_step hSt hes hc9, by simp [hlen]⟩
        · intro p hp; simp only [List.cons_append, List.nil_append, List.mem_cons, List.not_mem_nil, or_false] at hp ⊢; rcases hp with hp | hp | hp <;> simp [hp]
        · intro p hp hq; simp only [List.mem_cons, List.not_mem_nil, or_false] at hp hq; rcases hq with hq | hq <;> (rw [hp] at hq; first | exact hPe hq | exact hPI hq))
  case done =>
    rintro m1 nw1 h₀1 h1' tk1 ⟨P, vals, k, hm1, rfl, hSt, hlen⟩ C1
    rw [← over_eq hm1] at C1
    simp only [over] at C1
    clear hm1 RA
    obtain ⟨Tt, B1, F1, X1, N1, T1, D1⟩ := C1
    have hS9 : StrsAre vals.toArray.toList (fmL n) := hSt
    k_steps
    k_dflt (refine' join_listW ?hl9 hS9 ?hs9 ?hw9 ?_; (case hl9 => exact News.isList N1 (.head _)); (case hs9 => decide); (case hw9 => exact fm_room n); intro _ _)
    k_steps
    all_goals
      exact fin hret (str_post rfl) (fun _ h => nomatch h) hgr Tt (by assumption) (by first | assumption | exact KtsTurn.refl) (by assumption) (by assumption) (by assumption) (by assumption) (by assumption) (by assumption) (by assumption)
end Mine
end
section
open PySem PySem.W PyProof.Rows
namespace Mine
noncomputable def sgRow (n d b : Int) (S sg : Str) : Str := sg ++ (if decide (3 < (n.fdiv d).fmod 8) = true then Str.ofString "r" else Str.ofString "-") ++ (if ((((n.fdiv d).fmod 8).fdiv 2).fmod 2 == 1) = true then Str.ofString "w" else Str.ofString "-") ++ Txt.item (if (n.fdiv b).fmod 2 = 1 then S else Str.ofString "-x") (((n.fdiv d).fmod 8).fmod 2)
noncomputable def sgP0 (n : Int) : Str := Txt.item (Str.ofString "?pc?d?b?-?l?s???") (n.fdiv 4096)
noncomputable def sgP1 (n : Int) : Str := sgRow n 64 2048 (Str.ofString "Ss") (sgP0 n)
noncomputable def sgP2 (n : Int) : Str := sgRow n 8 1024 (Str.ofString "Ss") (sgP1 n)
noncomputable def sgP3 (n : Int) : Str := sgRow n 1 512 (Str.ofString "Tt") (sgP2 n)
noncomputable def sgP (n : Int) : Nat → Str
  | 0 => sgP0 n
  | 1 => sgP1 n
  | 2 => sgP2 n
  | _ => sgP3 n
theorem sg_step {n d b : Int} {S sg sg0 x1 x2 two : Str} (h0 : sg = sg0) (h1 : x1 = if decide (3 < (n.fdiv d).fmod 8) = true then Str.ofString "r" else Str.ofString "-") (h2 : x2 = if ((((n.fdiv d).fmod 8).fdiv 2).fmod 2 == 1) = true then Str.ofString "w" else Str.ofString "-")
    (h3 : two = if (n.fdiv b).fmod 2 = 1 then S else Str.ofString "-x") : sg ++ x1 ++ x2 ++ Txt.item two (((n.fdiv d).fmod 8).fmod 2) = sgRow n d b S sg0 := by subst h0 h1 h2 h3; rfl
noncomputable def SgJ (n : Int) (t : Tok) (T : Addr) (to : Obj) (i : Nat) (m : Str → Option Value) (nw : List (Addr × Obj)) : Prop :=
  ∃ (sg : Str) (ts : Tok), Holds [(Str.ofString "mode", .int n t), (Str.ofString "signs", .str sg ts)] m ∧ nw = [(T, to)] ∧ sg = sgP n i ∧ sg.length = 1 + 3 * i
theorem spec_signs (w : World) (mean mg mb) (n : Int) (t : Tok) (h0 : 0 ≤ n) (h1 : n < 65536) : SpecS w mean mg mb 6 60 true 203 [] [.int n t] (StrPost (sgP3 n)) := by
  unfold SpecS
  k_fill
  intro hdl dp un gd cenv outer A₀ base h₀ L m s rest Q E hzA hcf hck B F X N hnr T XB TB D CH hd hu hret
  obtain rfl := hzA rfl
  refine wpAny_call ?_
  k_dflt (refine' Mine.kx_def ?cf ?ck ?k1 ?k2 ?k3 ?k4 ?knr ?k5 ?XB ?TB ?D ?kA ?k6 ?k7 ?k8 ?k9 ?kB ?_ ?c2 ?c3 ?c4 ?c5; (case kA => exact rfl); (case cf => exact hcf); (case ck => exact hck); (case k1 => exact B); (case k2 => exact F); (case k3 => exact X); (case k4 => exact N); (case knr => exact hnr); (case k5 => exact T); (case XB => assumption); (case TB => assumption); (case D => assumption); (case k6 => refine' Mine.ho_lit ?h6 ?p6 ?b6 ?s6; (case h6 => k_is); (case p6 => ((conv => lhs; whnf); try exact rfl)); (case b6 => ((conv => lhs; whnf); try exact rfl)); (case s6 => ((conv => lhs; whnf); try exact rfl))); (case k7 => k_is); (case k8 => ktr_room); (case k9 => exact BindsTo.of_eq rfl); (case c5 => decide); (case kB => exact locs rfl); (case c2 => exact rfl); (case c3 => exact rfl); (case c4 => exact rfl); k_whole; intro g' L' h' hgr FG' F' N' B' X' T' D'; (try dsimp only); (try k_lift B'); (try k_fold))
  k_steps
  unfold Mine.StopHere
  rename (News _ _ _ [(_, _)]) => nP
  k_dflt (refine' tupleL_turns (SgJ n t) ?hh ?C ?c ?d ?hm ?hst ?h0 ?turn ?done ?hE)
  case hE => passes_own
  case C => exact ⟨KtsTurn.refl, by assumption, by assumption, by assumption, nP, by assumption, by assumption⟩
  case hh => with_unfolding_all rfl
  case hm => exact .head _
  case c => exact rfl
  case d => exact rfl
  case hst => rintro i m nw ⟨sg, ts, _, rfl, _⟩; exact .head _
  case h0 => exact ⟨_, _, ⟨rfl, rfl, trivial⟩, rfl, rfl, by assumption⟩
  case turn =>
    clear nP
    rintro i v m1 nw1 h₀1 h1' tk1 I1 oi1 hx ⟨sg, ts, hm1, rfl, hsg, hlen⟩ hoff C1
    rw [← over_eq hm1] at C1
    clear hm1
    simp only [over] at C1
    have hTI := hoff _ (.head _)
    clear hoff
    obtain ⟨Tt, B1, F1, X1, N1, T1, D1⟩ := C1
    match i, hx with
    | 0, hx =>
      cases hx
      k_steps
      all_goals (
        refine lp_end [_] ⟨Tt, by assumption, by assumption, by assumption, by assumption, by assumption, by assumption⟩ (fun p hp => hp) ?_ ⟨_, _, ⟨rfl, rfl, trivial⟩, rfl, sg_step (by assumption) (by assumption) (by assumption) (by first | exact (if_pos (by assumption)).symm | exact (if_neg (by assumption)).symm), by omega⟩
        intro p hp hq; simp only [List.mem_cons, List.not_mem_nil, or_false] at hp hq; rw [hp] at hq; exact hTI hq)
    | 1, hx =>
      cases hx
      k_steps
      all_goals (
        refine lp_end [_] ⟨Tt, by assumption, by assumption, by assumption, by assumption, by assumption, by assumption⟩ (fun p hp => hp) ?_ ⟨_, _, ⟨rfl, rfl, trivial⟩, rfl, sg_step (by assumption) (by assumption) (by assumption) (by first | exact (if_pos (by assumption)).symm | exact (if_neg (by assumption)).symm), by omega⟩
        intro p hp hq; simp only [List.mem_cons, List.not_mem_nil, or_false] at hp hq; rw [hp] at hq; exact hTI hq)
    | 2, hx =>
      cases hx
      k_steps
      all_goals (
        refine lp_end [_] ⟨Tt, by assumption, by assumption, by assumption, by assumption, by assumption, by assumption⟩ (fun p hp => hp) ?_ ⟨_, _, ⟨rfl, rfl, trivial⟩, rfl, sg_step (by assumption) (by assumption) (by assumption) (by first | exact (if_pos (by assumption)).symm | exact (if_neg (by assumption)).symm), by omega⟩
        intro p hp hq; simp only [List.mem_cons, List.not_mem_nil, or_false] at hp hq; rw [hp] at hq; exact hTI hq)
    | i + 3, hx => cases hx
  case done =>
    clear nP
    rintro m1 nw1 h₀1 h1' tk1 ⟨sg, ts, hm1, rfl, hsg, hlen⟩ C1
    rw [← over_eq hm1] at C1
    clear hm1
    simp only [over] at C1
    obtain ⟨Tt, B1, F1, X1, N1, T1, D1⟩ := C1
    k_steps
    all_goals
      exact fin hret (str_post (by exact hsg)) (fun _ h => nomatch h) hgr Tt (by assumption) (by first | assumption | exact KtsTurn.refl) (by assumption) (by assumption) (by assumption) (by assumption) (by assumption) (by assumption) (by assumption)
end Mine
end
section
open PySem PySem.W PyProof.Rows PySem.Calls
namespace Mine
noncomputable def pathsL : List Str := [Str.ofString "/", Str.ofString "/-", Str.ofString "/b", Str.ofString "/-/-", Str.ofString "/-/b-", Str.ofString "/b/c"]
noncomputable def innStep (ws : List Int) (k q : Int) (x : Int × Int × Int) : Int × Int × Int :=
  if 0 < x.2.1 + (ws.count (9 * k + q - 10) : Nat) ∧ ¬ (q.fmod 3 = 0 ∧ (x.1.fdiv (2 ^ (12 - q.fdiv 3).toNat)).fmod 2 = 1) ∧ (x.1.fdiv (2 ^ (9 - q).toNat)).fmod 2 = 0 then
    (x.1 + 2 ^ (9 - q).toNat, x.2.1 + (ws.count (9 * k + q - 10) : Nat) - 1, x.2.2 + (x.2.1 + (ws.count (9 * k + q - 10) : Nat) - 1))
  else (x.1, x.2.1 + (ws.count (9 * k + q - 10) : Nat), x.2.2 + (x.2.1 + (ws.count (9 * k + q - 10) : Nat)))
noncomputable def inn (ws : List Int) (k : Int) (x : Int × Int × Int) : Nat → Int × Int × Int
  | 0 => x
  | j + 1 => innStep ws k (1 + (j : Int) * 1) (inn ws k x j)
theorem inn_yes {ws : List Int} {k : Int} {x0 : Int × Int × Int} {j : Nat} {mo wa pa : Int} (hinn : (mo, wa, pa) = inn ws k x0 j) (h1 : 0 < wa + (ws.count (9 * k + (1 + (j : Int) * 1) - 10) : Nat))
    (h2 : ¬ ((1 + (j : Int) * 1).fmod 3 = 0 ∧ (mo.fdiv (2 ^ (12 - (1 + (j : Int) * 1).fdiv 3).toNat)).fmod 2 = 1)) (h3 : (mo.fdiv (2 ^ (9 - (1 + (j : Int) * 1)).toNat)).fmod 2 = 0) :
    (mo + 2 ^ (9 - (1 + (j : Int) * 1)).toNat, wa + (ws.count (9 * k + (1 + (j : Int) * 1) - 10) : Nat) - 1, pa + (wa + (ws.count (9 * k + (1 + (j : Int) * 1) - 10) : Nat) - 1)) = inn ws k x0 (j + 1) := by
  show _ = innStep ws k (1 + (j : Int) * 1) (inn ws k x0 j)
  rw [← hinn]
  unfold innStep
  rw [if_pos ⟨h1, h2, h3⟩]
theorem inn_no {ws : List Int} {k : Int} {x0 : Int × Int × Int} {j : Nat} {mo wa pa : Int} (hinn : (mo, wa, pa) = inn ws k x0 j) (h : ¬ (0 < wa + (ws.count (9 * k + (1 + (j : Int) * 1) - 10) : Nat) ∧
    ¬ ((1 + (j : Int) * 1).fmod 3 = 0 ∧ (mo.fdiv (2 ^ (12 - (1 + (j : Int) * 1).fdiv 3).toNat)).fmod 2 = 1) ∧ (mo.fdiv (2 ^ (9 - (1 + (j : Int) * 1)).toNat)).fmod 2 = 0)) :
    (mo, wa + (ws.count (9 * k + (1 + (j : Int) * 1) - 10) : Nat), pa + (wa + (ws.count (9 * k + (1 + (j : Int) * 1) - 10) : Nat))) = inn ws k x0 (j + 1) := by
  show _ = innStep ws k (1 + (j : Int) * 1) (inn ws k x0 j)
  rw [← hinn]
  unfold innStep
  rw [if_neg h]
theorem innStep_range {ws : List Int} {k : Int} {j : Nat} (hj : j < 9) {x : Int × Int × Int} (h0 : 0 ≤ x.1) (h1 : x.1 < 65536) : 0 ≤ (innStep ws k (1 + (j : Int) * 1) x).1 ∧ (innStep ws k (1 + (j : Int) * 1) x).1 < 65536 := by
  unfold innStep
  split
  · rename_i h
    have h3 := h.2.2
    have e9 : (9 - (1 + (j : Int) * 1)).toNat = 8 - j := by omega
    rw [e9] at h3 ⊢
    have hP : (0 : Int) < 2 ^ (8 - j) := Int.pow_pos (by decide)
    rw [Int.fdiv_eq_ediv_of_nonneg _ (Int.le_of_lt hP), Int.fmod_eq_emod_of_nonneg _ (by decide)] at h3
    exact room_add (by omega) h0 h1 h3
  · exact ⟨h0, h1⟩
theorem inn_range {ws : List Int} {k : Int} {x : Int × Int × Int} (h0 : 0 ≤ x.1) (h1 : x.1 < 65536) : ∀ j : Nat, j ≤ 9 → 0 ≤ (inn ws k x j).1 ∧ (inn ws k x j).1 < 65536
  | 0, _ => ⟨h0, h1⟩
  | j + 1, hj => innStep_range (by omega) (inn_range h0 h1 j (by omega)).1 (inn_range h0 h1 j (by omega)).2
noncomputable def rowS (i : Nat) (sg : Str) : Str := Str.ofString "\n" ++ pathsL.getD i Str.empty ++ Str.ofString " " ++ sg ++ Str.ofString "."
noncomputable def toldStep (ms ws : List Int) (i : Nat) (st : List Int × Int × Str) : List Int × Int × Str :=
  let k : Int := 6 + (i : Int) * -1
  let x := inn ws k (ms.getD (k - 1).toNat 0, st.1.getD k.toNat 0, st.2.1) 9
  (st.1.set (k.fdiv 2).toNat (st.1.getD (k.fdiv 2).toNat 0 + x.2.1), x.2.2, rowS (k - 1).toNat (sgP3 x.1) ++ st.2.2)
noncomputable def toldSt (ms ws : List Int) : Nat → List Int × Int × Str
  | 0 => (List.replicate 7 0, 0, Str.ofString "")
  | i + 1 => toldStep ms ws i (toldSt ms ws i)
/-- what a told tuple holds -/
noncomputable def TupPost (L : List (Addr × Obj)) (x : Str) (a b : Int) (v : Value) (nw : List (Addr × Obj)) : Prop := ∃ (T : Addr) (t1 t2 t3 : Tok) (n : Nat), v = .ref T ∧ nw = (T, { cls := .type "tuple", data := .seq #[.str x t1, .int a t2, .int b t3] n }) :: L
theorem use_str {w : World} {mean : ExcName → Option Value} {mg mb : Str → Option Value} {dn un₀ : Nat} {hz : Bool} {f : Addr} {vs : List Value} {x : Str} (S : SpecS w mean mg mb dn un₀ hz f [] vs (StrPost x))
    {A : Around} {cenv : Env} {outer : List Env} {A₀ : Around} {base h₀ : Heap} {L : Addr} {m : Str → Option Value} {s : Shared} {Q E : Value → Shared → Prop} {all : List (Addr × Obj)}
    (hzA : hz = true → A.handled = none) (hA : A.frames = some (cenv :: outer)) (hcf : cenv.frame = some L) (hck : cenv.scope.kind = .function) (B : Below A₀ base outer h₀) (F : Fr h₀ L s.heap m) (X : (Kp w.params).In h₀) (N : News h₀ L s.heap all) (T : Top topProg LS mean mg mb h₀)
    (XB : (Kp w.params).In base) (TB : Top topProg LS mean mg mb base) (D : KtsDicts (outer.filterMap (·.frame)) h₀) (C : CodeHd base 47 43) (r1 : A.depth + dn < recursionLimit) (r2 : A.units + un₀ < cLine)
    (k : ∀ t h' tk' h₀', KtsTurn (outer.filterMap (·.frame)) h₀ h₀' → Below A₀ base outer h₀' → Fr h₀' L h' m → (Kp w.params).In h₀' → News h₀' L h' all → Top topProg LS mean mg mb h₀' → KtsDicts (outer.filterMap (·.frame)) h₀' → Q (.str x t) { s with heap := h', toks := tk' }) :
    wpAny (model PySem.Challenge.rw_rt0053_01.row.prog w) A (call (.ref f) vs) Q E s := by
  refine S.use (rest := all) hzA hA hcf hck B F X N T XB TB D C r1 r2 (fun p hp => hp) (fun _ h => nomatch h) ?_
  rintro v news' h' tk' h₀' ⟨⟨t, rfl⟩, rfl⟩ _ a b c d e f g
  exact k t h' tk' h₀' a b c d e f g
theorem pathsL_len : ∀ i : Nat, (pathsL.getD i Str.empty).length ≤ 5
  | 0 => by decide
  | 1 => by decide
  | 2 => by decide
  | 3 => by decide
  | 4 => by decide
  | 5 => by decide
  | i + 6 => by
    have : pathsL.getD (i + 6) Str.empty = Str.empty := rfl
    rw [this]; decide
theorem item_path {prog : Program} {w : World} {A : Around} {E : Value → Shared → Prop} {s : Shared} {value slice : PySem.Expr} {l : Addr} {vs : List Value} {i : Int} {u : Tok} {Q : Value → Shared → Prop} (hl : s.heap.IsList l vs.toArray) (hw : StrsAre vs pathsL) (h0 : 0 ≤ i) (h1 : i < 6)
    (h : ∀ (t' : Tok) (x : Str), x = pathsL.getD i.toNat Str.empty → x.length ≤ 5 → Q (.str x t') s)
    (hs : subscripted slice false (.ref l) (.int i u) = operate [.ref l, .int i u] (getItem (.ref l) (.int i u)) := by with_unfolding_all rfl) :
    wpAny (model prog w) A (subscriptTail value slice (.ref l) (.int i u)) Q E s :=
  KTb.item_list hl hw h0 (by show i < ((6 : Nat) : Int); omega) (by omega) (fun t' _ => h t' _ rfl (pathsL_len _)) hs
theorem sgRow_len (n d b : Int) (S sg : Str) : (sgRow n d b S sg).length = sg.length + 3 := by
  have h1 : ∀ (c : Bool) (a b : Str), a.length = 1 → b.length = 1 → (if c = true then a else b).length = 1 := fun c a b ha hb => by cases c <;> simp [ha, hb]
  unfold sgRow
  rw [Str.length_append, Str.length_append, Str.length_append, h1 _ _ _ (by decide) (by decide), h1 _ _ _ (by decide) (by decide)]
  show sg.length + 1 + 1 + 1 = _
  omega
theorem sgP3_len (n : Int) : (sgP3 n).length = 10 := by
  unfold sgP3 sgP2 sgP1
  rw [sgRow_len, sgRow_len, sgRow_len]
  rfl
theorem use_signs {w : World} {mean : ExcName → Option Value} {mg mb : Str → Option Value} {n : Int} {tn : Tok} (a0 : 0 ≤ n) (a1 : n < 65536)
    {A : Around} {cenv : Env} {outer : List Env} {A₀ : Around} {base h₀ : Heap} {L : Addr} {m : Str → Option Value} {s : Shared} {Q E : Value → Shared → Prop} {all : List (Addr × Obj)}
    (hzA : A.handled = none) (hA : A.frames = some (cenv :: outer)) (hcf : cenv.frame = some L) (hck : cenv.scope.kind = .function) (B : Below A₀ base outer h₀) (F : Fr h₀ L s.heap m) (X : (Kp w.params).In h₀) (N : News h₀ L s.heap all) (T : Top topProg LS mean mg mb h₀)
    (XB : (Kp w.params).In base) (TB : Top topProg LS mean mg mb base) (D : KtsDicts (outer.filterMap (·.frame)) h₀) (C : CodeHd base 47 43) (r1 : A.depth + 6 < recursionLimit) (r2 : A.units + 60 < cLine)
    (k : ∀ x t h' tk' h₀', x = sgP3 n → x.length = 10 → KtsTurn (outer.filterMap (·.frame)) h₀ h₀' → Below A₀ base outer h₀' → Fr h₀' L h' m → (Kp w.params).In h₀' → News h₀' L h' all → Top topProg LS mean mg mb h₀' → KtsDicts (outer.filterMap (·.frame)) h₀' → Q (.str x t) { s with heap := h', toks := tk' }) :
    wpAny (model PySem.Challenge.rw_rt0053_01.row.prog w) A (call (.ref 203) [.int n tn]) Q E s :=
  use_str (spec_signs w mean mg mb n tn a0 a1) (fun _ => hzA) hA hcf hck B F X N T XB TB D C r1 r2 fun t h' tk' h₀' a b c d e f g => k _ t h' tk' h₀' rfl (sgP3_len n) a b c d e f g
theorem told_close {ms ws cs : List Int} {ps mo wa pa : Int} {tx x1 x2 : Str} {i : Nat} (hst : (cs, ps, tx) = toldSt ms ws i) (hinn : (mo, wa, pa) = inn ws (6 + (i : Int) * -1) (ms.getD (6 + (i : Int) * -1 - 1).toNat 0, cs.getD (6 + (i : Int) * -1).toNat 0, ps) 9)
    (h1 : x1 = pathsL.getD (6 + (i : Int) * -1 - 1).toNat Str.empty) (h2 : x2 = sgP3 mo) : (cs.set ((6 + (i : Int) * -1).fdiv 2).toNat (cs.getD ((6 + (i : Int) * -1).fdiv 2).toNat 0 + wa), pa, Str.ofString "\n" ++ x1 ++ Str.ofString " " ++ x2 ++ Str.ofString "." ++ tx) = toldSt ms ws (i + 1) := by
  show _ = toldStep ms ws i (toldSt ms ws i)
  rw [← hst]
  unfold toldStep
  simp only
  rw [← hinn, h1, h2]
  rfl
theorem told_room {tx x1 x2 : Str} {i : Nat} (h : tx.length ≤ 100 * i) (h1 : x1.length ≤ 5) (h2 : x2.length = 10) : (Str.ofString "\n" ++ x1 ++ Str.ofString " " ++ x2 ++ Str.ofString "." ++ tx).length ≤ 100 * (i + 1) := by
  have a : (Str.ofString "\n").length = 1 := by decide
  have b : (Str.ofString " ").length = 1 := by decide
  have c : (Str.ofString ".").length = 1 := by decide
  simp only [Str.length_append]
  omega
end Mine
end
section
local macro_rules | `(tactic| k_ne) => `(tactic| (refine neN ?_; (try dsimp only); first | exact Mine.NeA.out (by assumption) | exact Mine.NeA.sym (by assumption) | omega))
theorem Mine.lines_e : True := by
  (k_with "binaryOp Pow int int" =>
    (k_here; (with_reducible show wpAny _ _ (binaryOp _ (Value.int 2 _) (Value.int _ _)) _ _ _); k_dflt (refine' Mine.pow_two ?wyh0 ?wyh1 ?_; (case wyh0 => first | omega | ((simp only [Int.fdiv_eq_ediv_of_nonneg _ (show (0:Int) ≤ 3 by decide)]); omega)); (case wyh1 => first | omega | ((simp only [Int.fdiv_eq_ediv_of_nonneg _ (show (0:Int) ≤ 3 by decide)]); omega)); k_whole); intro wyP' wyt' wyhP' wyhP1' wyhP2'; (try dsimp only)))
  (k_with "call ref" =>
    (k_here; (with_reducible show wpAny _ _ (call (Value.ref 203) [Value.int _ _] _) _ _ _); k_dflt (refine' Mine.use_signs ?wya ?wyb ?wyhz ?wyA ?wycf ?wyck ?wyB ?wyF ?wyX ?wyN ?wyT ?wyXB ?wyTB ?wyD ?wyC ?wyr1 ?wyr2 ?_; (case wyhz => exact rfl); (case wyA => exact rfl); (case wycf => first | exact rfl | assumption); (case wyck => first | exact rfl | assumption); (case wyB => k_asm); (case wyF => k_asm); (case wyX => k_asm); (case wyN => k_asm); (case wyT => k_asm); (case wyXB => assumption); (case wyTB => assumption); (case wyD => assumption); (case wyC => assumption); (case wyr1 => first | ktr_room | (simp only [Around.mark, Around.deeper]; omega)); (case wyr2 => first | ktr_room | (simp only [Around.mark, Around.deeper]; omega)); (case wya => first | assumption | omega); (case wyb => first | assumption | omega); k_whole); intro wyx' wyt' wyh' wytk' wyg' wyhx' wyhxl' wyTu' wyB' wyF' wyX' wyN' wyT' wyD'; (try dsimp only); (try k_lift wyB'); (try k_sweep)))
  (k_with "subscriptTail" =>
    (k_here; (with_reducible show wpAny _ _ (subscriptTail _ _ (Value.ref _) (Value.int _ _)) _ _ _); k_dflt (refine' Mine.item_path ?wyl ?wyw ?wyb0 ?wyb1 ?_ ?wyhs; (case wyl => exact News.isList (by k_asm) (by k_mem)); (case wyw => with_reducible assumption); (case wyb0 => omega); (case wyb1 => omega); (case wyhs => with_unfolding_all rfl); k_whole); intro wyt' wyx' wyhx' wyhxl'))
  trivial
section
open PySem PySem.W PyProof.Rows
namespace Mine
theorem news_drop2 {g h : Heap} {L : Addr} {x y : Addr × Obj} {r : List (Addr × Obj)} (N : News g L h (x :: y :: r)) : News g L h (x :: r) := fun p hp => N p (by
  rcases List.mem_cons.mp hp with h | h
  · rw [h]; exact .head _
  · exact .tail _ (.tail _ h))
noncomputable def TlI (ws : List Int) (a b c d : Addr) (k : Int) (tk : Tok) (x0 : Int × Int × Int) (tx : Str) (ttx : Tok) (nws0 : List (Addr × Obj)) (j : Nat) (m : Str → Option Value) (nws : List (Addr × Obj)) : Prop :=
  ∃ (mo wa pa : Int) (t1 t2 t3 : Tok), Holds [(Str.ofString "mode", .int mo t1), (Str.ofString "wait", .int wa t2), (Str.ofString "passed", .int pa t3), (Str.ofString "k", .int k tk), (Str.ofString "paths", .ref a), (Str.ofString "modes", .ref b), (Str.ofString "wishes", .ref c), (Str.ofString "come", .ref d), (Str.ofString "text", .str tx ttx)] m ∧
    nws = nws0 ∧ (mo, wa, pa) = inn ws k x0 j
noncomputable def TlJ (ms ws : List Int) (a b c : Addr) (vp vm vw : List Value) (np nm nw : Nat) (i : Nat) (m : Str → Option Value) (nws : List (Addr × Obj)) : Prop :=
  ∃ (d : Addr) (vc : List Value) (kc : Nat) (cs : List Int) (ps : Int) (tps : Tok) (tx : Str) (ttx : Tok),
    Holds [(Str.ofString "paths", .ref a), (Str.ofString "modes", .ref b), (Str.ofString "wishes", .ref c), (Str.ofString "come", .ref d), (Str.ofString "passed", .int ps tps), (Str.ofString "text", .str tx ttx)] m ∧
    nws = [(d, W.listOf vc.toArray kc), (a, W.listOf vp.toArray np), (b, W.listOf vm.toArray nm), (c, W.listOf vw.toArray nw)] ∧ IntsAre vc cs ∧ cs.length = 7 ∧ tx.length ≤ 100 * i ∧ (NeA d a ∧ NeA d b ∧ NeA d c) ∧ (cs, ps, tx) = toldSt ms ws i
theorem spec_told (w : World) (mean mg mb) (a b c : Addr) (vp vm vw : List Value) (np nm nw : Nat) (ms ws : List Int) (hP : StrsAre vp pathsL) (hM : IntsAre vm ms) (hW : IntsAre vw ws) (hml : ms.length = 6) (hm : ∀ x ∈ ms, 0 ≤ x ∧ x < 65536) (hwl : ws.length ≤ 19) :
    SpecS w mean mg mb 8 100 true 222 [(a, W.listOf vp.toArray np), (b, W.listOf vm.toArray nm), (c, W.listOf vw.toArray nw)] [.ref a, .ref b, .ref c] (TupPost [(a, W.listOf vp.toArray np), (b, W.listOf vm.toArray nm), (c, W.listOf vw.toArray nw)] (toldSt ms ws 6).2.2 ((toldSt ms ws 6).1.getD 0 0) (toldSt ms ws 6).2.1) := by
  unfold SpecS
  k_fill
  intro hdl dp un gd cenv outer A₀ base h₀ L m s rest Q E hzA hcf hck B F X N hnr T XB TB D CH hd hu hret
  obtain rfl := hzA rfl
  refine wpAny_call ?_
  k_dflt (refine' Mine.kx_def ?cf ?ck ?k1 ?k2 ?k3 ?k4 ?knr ?k5 ?XB ?TB ?D ?kA ?k6 ?k7 ?k8 ?k9 ?kB ?_ ?c2 ?c3 ?c4 ?c5; (case kA => exact rfl); (case cf => exact hcf); (case ck => exact hck); (case k1 => exact B); (case k2 => exact F); (case k3 => exact X); (case k4 => exact N); (case knr => exact hnr); (case k5 => exact T); (case XB => assumption); (case TB => assumption); (case D => assumption); (case k6 => refine' Mine.ho_lit ?h6 ?p6 ?b6 ?s6; (case h6 => k_is); (case p6 => ((conv => lhs; whnf); try exact rfl)); (case b6 => ((conv => lhs; whnf); try exact rfl)); (case s6 => ((conv => lhs; whnf); try exact rfl))); (case k7 => k_is); (case k8 => ktr_room); (case k9 => exact BindsTo.of_eq rfl); (case c5 => decide); (case kB => exact locs rfl); (case c2 => exact rfl); (case c3 => exact rfl); (case c4 => exact rfl); k_whole; intro g' L' h' hgr FG' F' N' B' X' T' D'; (try dsimp only); (try k_lift B'); (try k_fold))
  k_steps
  unfold Mine.StopHere
  rename (IsRange _ _ _ _ _ _ _ _) => hR
  rename (News _ _ _ _) => nP
  k_dflt (refine' range_turns (n := 6) (TlJ ms ws a b c vp vm vw np nm nw) ?hh ?C hR ?sm ?hn ?h0 ?turn ?done ?hE)
  case hE => passes_own
  case hh => with_unfolding_all rfl
  case C => exact ⟨KtsTurn.refl, by assumption, by assumption, by assumption, news_drop2 nP, by assumption, by assumption⟩
  case sm => decide
  case hn => decide
  case h0 => exact ⟨_, _, _, List.replicate 7 0, _, _, _, _, ⟨rfl, rfl, rfl, rfl, rfl, rfl, trivial⟩, rfl, (.cons _ _ (.cons _ _ (.cons _ _ (.cons _ _ (.cons _ _ (.cons _ _ (.cons _ _ .nil))))))), rfl, by decide, ⟨by show _ ≠ _; omega, by show _ ≠ _; omega, by show _ ≠ _; omega⟩, rfl⟩
  case turn =>
    rintro i t m1 nw1 h₀1 h1' tk1 I1 oi1 hi ⟨d, vc, kc, cs, ps, tps, tx, ttx, hm1, rfl, hIc, hcl, hxl, ⟨hda, hdb, hdc⟩, hst⟩ hoff C1
    rw [← over_eq hm1] at C1
    clear hm1 nP
    simp only [over] at C1
    obtain ⟨Tt, B1, F1, X1, N1, T1, D1⟩ := C1
    k_steps
    unfold Mine.StopHere
    rename (IsRange _ _ _ _ _ _ _ _) => hR2
    rename (News _ _ _ _) => nP2
    k_dflt (refine' range_turns (n := 9) (TlI ws a b c d (6 + (i : Int) * -1) t (ms.getD (6 + (i : Int) * -1 - 1).toNat 0, cs.getD (6 + (i : Int) * -1).toNat 0, ps) tx ttx [(I1, oi1), (d, W.listOf vc.toArray kc), (a, W.listOf vp.toArray np), (b, W.listOf vm.toArray nm), (c, W.listOf vw.toArray nw)]) ?hh2 ?C2 hR2 ?sm2 ?hn2 ?h02 ?turn2 ?done2 ?hE2)
    case hE2 => passes_own
    case hh2 => with_unfolding_all rfl
    case C2 => exact ⟨KtsTurn.refl, by assumption, by assumption, by assumption, nP2, by assumption, by assumption⟩
    case sm2 => decide
    case hn2 => decide
    case h02 => exact ⟨_, _, _, _, _, _, ⟨rfl, rfl, rfl, rfl, rfl, rfl, rfl, rfl, rfl, trivial⟩, rfl, rfl⟩
    case turn2 =>
      rintro j tj m2 nw2 h₀2 h2' tk2 I2 oi2 hj ⟨mo, wa, pa, t1, t2, t3, hm2, rfl, hinn⟩ hoff2 C2
      rw [← over_eq hm2] at C2
      clear hm2 nP2 hR2 hR
      simp only [over] at C2
      clear N1 F1 B1 X1 T1 D1
      obtain ⟨Tt2, B2, F2, X2, N2, T2, D2⟩ := C2
      --DBG
      repeat' (first | (k_unfold; (try dsimp only)) | walk1 | (dsimp only; walk1) | (leave1; walk_say "STEP leave1"; try dsimp only) | fail "no step")
      all_goals (
        refine lp_end [(I1, oi1), (d, W.listOf vc.toArray kc), (a, W.listOf vp.toArray np), (b, W.listOf vm.toArray nm), (c, W.listOf vw.toArray nw)] ⟨Tt2, by assumption, by assumption, by assumption, by assumption, by assumption, by assumption⟩ (fun p hp => hp) (fun p hp hq => hoff2 p hp (List.mem_singleton.mp hq)) ⟨_, _, _, _, _, _, ⟨rfl, rfl, rfl, rfl, rfl, rfl, rfl, rfl, rfl, trivial⟩, rfl, ?_⟩
        repeat (rename PowIs _ _ => hpw; unfold PowIs at hpw; subst hpw)
        first
          | exact inn_yes hinn (by assumption) (fun h => absurd h.1 (by assumption)) (by assumption)
          | exact inn_yes hinn (by assumption) (fun h => absurd h.2 (by assumption)) (by assumption)
          | exact inn_no hinn (fun h => absurd h.1 (by assumption))
          | exact inn_no hinn (fun h => h.2.1 ⟨by assumption, by assumption⟩)
          | exact inn_no hinn (fun h => absurd h.2.2 (by assumption))
          | exact absurd (show (1 + (j : Int) * 1).fmod 3 = 0 by assumption) (by assumption))
    case done2 =>
      rintro m2 nw2 h₀2 h2' tk2 ⟨mo, wa, pa, t1, t2, t3, hm2, rfl, hinn⟩ C2
      rw [← over_eq hm2] at C2
      clear hm2 nP2 hR2 hR
      simp only [over] at C2
      have hi6 : (6 + (i : Int) * -1 - 1).toNat < ms.length := by omega
      have hmr := hm _ (List.getElem_mem hi6)
      have hme : ms.getD (6 + (i : Int) * -1 - 1).toNat 0 = ms[(6 + (i : Int) * -1 - 1).toNat] := by rw [List.getD_eq_getElem?_getD, List.getElem?_eq_getElem hi6]; rfl
      rw [← hme] at hmr
      have hrg := inn_range (ws := ws) (k := 6 + (i : Int) * -1) (x := (ms.getD (6 + (i : Int) * -1 - 1).toNat 0, cs.getD (6 + (i : Int) * -1).toNat 0, ps)) hmr.1 hmr.2 9 (Nat.le_refl _)
      rw [← hinn] at hrg
      have hm0 : 0 ≤ mo := hrg.1
      have hm1 : mo < 65536 := hrg.2
      clear N1 F1 B1 X1 T1 D1 hrg hmr hme hi6
      have q1 : NeA d I1 := hoff _ (.head _)
      have q2 : NeA d a := hda
      have q3 : NeA d b := hdb
      have q4 : NeA d c := hdc
      obtain ⟨Tt2, B2, F2, X2, N2, T2, D2⟩ := C2
      --DBG
      repeat' (first | (k_unfold; (try dsimp only)) | walk1 | (dsimp only; walk1) | (leave1; walk_say "STEP leave1"; try dsimp only) | fail "no step")
      all_goals (
        refine lp_end [(d, W.listOf (vc.set ((6 + (i : Int) * -1).fdiv 2).toNat (.int (cs.getD ((6 + (i : Int) * -1).fdiv 2).toNat 0 + wa) _)).toArray kc), (a, W.listOf vp.toArray np), (b, W.listOf vm.toArray nm), (c, W.listOf vw.toArray nw)]
          ⟨(Tt.trans Tt2).trans (by assumption), by assumption, by assumption, by assumption, by assumption, by assumption, by assumption⟩ (fun p hp => hp) ?_ ⟨d, _, _, _, _, _, _, _, ⟨rfl, rfl, rfl, rfl, rfl, rfl, trivial⟩, rfl, by assumption, by rw [List.length_set]; exact hcl, told_room hxl (by assumption) (by assumption), ⟨hda, hdb, hdc⟩, told_close hst hinn (by assumption) (by assumption)⟩
        intro p hp hq
        have hq' := List.mem_singleton.mp hq
        rcases List.mem_cons.mp hp with z | z
        · rw [z] at hq'; exact q1 hq'
        · exact hoff p (.tail _ z) hq')
  case done =>
    rintro m1 nw1 h₀1 h1' tk1 ⟨d, vc, kc, cs, ps, tps, tx, ttx, hm1, rfl, hIc, hcl, hxl, ⟨hda, hdb, hdc⟩, hst⟩ C1
    rw [← over_eq hm1] at C1
    clear hm1 nP hR
    simp only [over] at C1
    obtain ⟨Tt, B1, F1, X1, N1, T1, D1⟩ := C1
    repeat' (first | (k_unfold; (try dsimp only)) | walk1 | (dsimp only; walk1) | (leave1; walk_say "STEP leave1"; try dsimp only) | fail "no step")
    k_dflt (refine' fin (nw := [(_, { cls := .type "tuple", data := .seq #[.str tx ?t1, .int (cs.getD 0 0) ?t2, .int ps ?t3] 0 }), (a, W.listOf vp.toArray np), (b, W.listOf vm.toArray nm), (c, W.listOf vw.toArray nw)]) hret ?P ?sub hgr Tt ?Ng ?T1 ?B ?F ?X ?N ?R ?T ?D)
    case Ng => assumption
    case N => assumption
    case F => assumption
    case sub =>
      intro p hp
      rcases List.mem_cons.mp hp with z | z
      · rw [z]; exact .head _
      · exact .tail _ (.tail _ z)
    case P =>
      rw [← hst]
      exact ⟨_, _, _, _, 0, rfl, rfl⟩
    all_goals first | assumption | exact KtsTurn.refl
end Mine
end
section
open PySem PySem.W PyProof.Rows PySem.Calls
namespace Mine
theorem fmS_len (n : Int) : (fmS n).length = 10 := by
  unfold fmS
  show (Builtin.Str.glued (Str.ofString "") (fmL n)).length = 10
  rw [size_glued, ones_sum (fm_ones n)]
  rfl
theorem use_fm {w : World} {mean : ExcName → Option Value} {mg mb : Str → Option Value} {n : Int} {tn : Tok} (a0 : 0 ≤ n) (a1 : n < 65536)
    {A : Around} {cenv : Env} {outer : List Env} {A₀ : Around} {base h₀ : Heap} {L : Addr} {m : Str → Option Value} {s : Shared} {Q E : Value → Shared → Prop} {all : List (Addr × Obj)}
    (hzA : A.handled = none) (hA : A.frames = some (cenv :: outer)) (hcf : cenv.frame = some L) (hck : cenv.scope.kind = .function) (B : Below A₀ base outer h₀) (F : Fr h₀ L s.heap m) (X : (Kp w.params).In h₀) (N : News h₀ L s.heap all) (T : Top topProg LS mean mg mb h₀)
    (XB : (Kp w.params).In base) (TB : Top topProg LS mean mg mb base) (D : KtsDicts (outer.filterMap (·.frame)) h₀) (C : CodeHd base 47 43) (r1 : A.depth + 6 < recursionLimit) (r2 : A.units + 60 < cLine)
    (k : ∀ x t h' tk' h₀', x = fmS n → x.length = 10 → KtsTurn (outer.filterMap (·.frame)) h₀ h₀' → Below A₀ base outer h₀' → Fr h₀' L h' m → (Kp w.params).In h₀' → News h₀' L h' all → Top topProg LS mean mg mb h₀' → KtsDicts (outer.filterMap (·.frame)) h₀' → Q (.str x t) { s with heap := h', toks := tk' }) :
    wpAny (model PySem.Challenge.rw_rt0053_01.row.prog w) A (call (.ref 196) [.int n tn]) Q E s :=
  use_str (spec_filemode w mean mg mb n tn a0 a1) (fun _ => hzA) hA hcf hck B F X N T XB TB D C r1 r2 fun t h' tk' h₀' a b c d e f g => k _ t h' tk' h₀' rfl (fmS_len n) a b c d e f g
theorem ints_at : ∀ {vs : List Value} {ns : List Int} {i : Nat} {x : Value}, IntsAre vs ns → vs[i]? = some x → ∃ k t, ns[i]? = some k ∧ x = .int k t
  | _, _, i, x, .nil, e => by simp at e
  | _, _, 0, x, .cons n t h, e => ⟨n, t, rfl, by simpa using e.symm⟩
  | _, _, i + 1, x, .cons n t h, e => by
    obtain ⟨k, t', h1, h2⟩ := ints_at (i := i) (x := x) h (by simpa using e)
    exact ⟨k, t', by simpa using h1, h2⟩
theorem strs_at : ∀ {vs : List Value} {ns : List Str} {i : Nat} {x : Value}, StrsAre vs ns → vs[i]? = some x → ∃ k t, ns[i]? = some k ∧ x = .str k t
  | _, _, i, x, .nil, e => by simp at e
  | _, _, 0, x, .cons n t h, e => ⟨n, t, rfl, by simpa using e.symm⟩
  | _, _, i + 1, x, .cons n t h, e => by
    obtain ⟨k, t', h1, h2⟩ := strs_at (i := i) (x := x) h (by simpa using e)
    exact ⟨k, t', by simpa using h1, h2⟩
/-- a row of the listing, as the comprehension makes it -/
noncomputable def RowAt (ms : List Int) (i : Nat) (v : Value) : Prop := ∃ t, v = .str (rowS i (fmS (ms.getD i 0))) t
theorem row_at {ms : List Int} {i : Nat} {k : Int} {p x1 : Str} {t : Tok} (h1 : ms[i]? = some k) (h2 : pathsL[i]? = some p) (h3 : x1 = fmS k) : RowAt ms i (.str (Str.ofString "\n" ++ p ++ Str.ofString " " ++ x1 ++ Str.ofString ".") t) := by
  refine ⟨t, ?_⟩
  unfold rowS
  rw [List.getD_eq_getElem?_getD, List.getD_eq_getElem?_getD, h1, h2, h3]
  rfl
theorem strs_of : ∀ {zs : List Value} {xs : List Str}, zs.length = xs.length → (∀ (j : Nat) (z : Value), zs[j]? = some z → ∃ t, z = Value.str (xs.getD j Str.empty) t) → StrsAre zs xs
  | [], [], _, _ => .nil
  | [], _ :: _, h, _ => by simp at h
  | _ :: _, [], h, _ => by simp at h
  | z :: r, x :: q, h, k => by
    obtain ⟨t, rfl⟩ := k 0 z rfl
    exact .cons x t (strs_of (by simpa using h) fun j z e => k (j + 1) z (by simpa using e))
/-- the listing's rows, and the listing -/
noncomputable def lstL (ms : List Int) : List Str := [rowS 0 (fmS (ms.getD 0 0)), rowS 1 (fmS (ms.getD 1 0)), rowS 2 (fmS (ms.getD 2 0)), rowS 3 (fmS (ms.getD 3 0)), rowS 4 (fmS (ms.getD 4 0)), rowS 5 (fmS (ms.getD 5 0))]
noncomputable def lstS (ms : List Int) : Str := Txt.join (Str.ofString "") (lstL ms)
theorem strs_rows {ms : List Int} {zs : List Value} (hl : zs.length = 6) (h : ∀ j z, zs[j]? = some z → RowAt ms j z) : StrsAre zs (lstL ms) := by
  refine strs_of (by rw [hl]; rfl) fun j z e => ?_
  have hj : j < 6 := by rw [← hl]; exact (List.getElem?_eq_some_iff.mp e).1
  obtain ⟨t, rfl⟩ := h j z e
  refine ⟨t, ?_⟩
  have hj' : j = 0 ∨ j = 1 ∨ j = 2 ∨ j = 3 ∨ j = 4 ∨ j = 5 := by omega
  rcases hj' with rfl | rfl | rfl | rfl | rfl | rfl <;> rfl
theorem rowS_len (i : Nat) (n : Int) : (rowS i (fmS n)).length ≤ 18 := by
  unfold rowS
  have a : (Str.ofString "\n").length = 1 := by decide
  have b : (Str.ofString " ").length = 1 := by decide
  have c : (Str.ofString ".").length = 1 := by decide
  have d := pathsL_len i
  have e := fmS_len n
  simp only [Str.length_append]
  omega
theorem lst_room (ms : List Int) : ((lstL ms).map (·.length)).sum + (lstL ms).length ≤ 1048576 := by
  have h := fun i n => rowS_len i n
  simp only [lstL, List.map_cons, List.map_nil, List.sum_cons, List.sum_nil, List.length_cons, List.length_nil]
  have h0 := h 0 (ms.getD 0 0)
  have h1 := h 1 (ms.getD 1 0)
  have h2 := h 2 (ms.getD 2 0)
  have h3 := h 3 (ms.getD 3 0)
  have h4 := h 4 (ms.getD 4 0)
  have h5 := h 5 (ms.getD 5 0)
  omega
end Mine
end
section
open PySem PySem.W PyProof.Rows PySem.Calls
namespace Mine
/-- where a row's signs start; the folder above; how deep a folder lies -/
noncomputable def offS (k : Nat) : Int := [(3 : Int), 18, 33, 50, 68, 85].getD k 0
noncomputable def parS (k : Nat) : Nat := [0, 0, 0, 1, 1, 2].getD k 0
noncomputable def depS (k : Nat) : Nat := [0, 1, 1, 2, 2, 2].getD k 0
/-- a wish that stands at a folder's place: what it leaves -/
noncomputable def climbF : Nat → List Int → Nat → Int → Int → Int → List Int × Int × Int
  | 0, now, _, _, ou, ps => (now, ou, ps)
  | f + 1, now, kk, pos, ou, ps =>
    if freeR (lstS now) (offS kk) pos < 10 then (now.set kk (now.getD kk 0 + 2 ^ (9 - freeR (lstS now) (offS kk) pos).toNat), ou, ps + (freeR (lstS now) (offS kk) pos - pos))
    else if kk = 0 then (now, ou + 1, ps + (freeR (lstS now) (offS kk) pos - pos)) else climbF f now (parS kk) 1 ou (ps + (freeR (lstS now) (offS kk) pos - pos))
noncomputable def servedSt (ms ws : List Int) : Nat → List Int × Int × Int
  | 0 => (ms, 0, 0)
  | i + 1 => climbF 3 (servedSt ms ws i).1 ((ws.getD i 0).fdiv 9).toNat (1 + (ws.getD i 0).fmod 9) (servedSt ms ws i).2.1 (servedSt ms ws i).2.2
noncomputable def Modes (now : List Int) : Prop := now.length = 6 ∧ ∀ x ∈ now, 0 ≤ x ∧ x < 65536
noncomputable def SvJ (ms ws : List Int) (a b c : Addr) (vp vm vw : List Value) (np nm nw : Nat) (l : Addr) (lo : Obj) (i : Nat) (m : Str → Option Value) (nws : List (Addr × Obj)) : Prop :=
  ∃ (Nw : Addr) (vn : List Value) (kn : Nat) (now : List Int) (ou ps : Int) (tx : Str) (t1 t2 t3 : Tok) (tab : List (Addr × Obj)),
    Holds [(Str.ofString "paths", .ref a), (Str.ofString "modes", .ref b), (Str.ofString "wishes", .ref c), (Str.ofString "now", .ref Nw), (Str.ofString "text", .str tx t1), (Str.ofString "out", .int ou t2), (Str.ofString "passed", .int ps t3)] m ∧
    nws = (Nw, W.listOf vn.toArray kn) :: (a, W.listOf vp.toArray np) :: (b, W.listOf vm.toArray nm) :: (c, W.listOf vw.toArray nw) :: tab ∧ TabLed tab ∧ IntsAre vn now ∧ Modes now ∧ tx = lstS now ∧
    (∀ p ∈ (a, W.listOf vp.toArray np) :: (b, W.listOf vm.toArray nm) :: (c, W.listOf vw.toArray nw) :: tab, p.1 ≠ Nw) ∧ (now, ou, ps) = servedSt ms ws i ∧ (l = c ∧ lo = W.listOf vw.toArray nw)
noncomputable def SvW (a b c : Addr) (vp vm vw : List Value) (np nm nw : Nat) (I : Addr) (oi : Obj) (target : List Int × Int × Int) (k : Nat) (m : Str → Option Value) (nws : List (Addr × Obj)) : Prop :=
  ∃ (Nw : Addr) (vn : List Value) (kn : Nat) (now : List Int) (ou ps pos : Int) (kk : Nat) (waits : Bool) (tx p : Str) (t1 t2 t3 t4 t5 : Tok) (tab : List (Addr × Obj)),
    Holds [(Str.ofString "paths", .ref a), (Str.ofString "modes", .ref b), (Str.ofString "wishes", .ref c), (Str.ofString "now", .ref Nw), (Str.ofString "text", .str tx t1), (Str.ofString "out", .int ou t2), (Str.ofString "passed", .int ps t3), (Str.ofString "path", .str p t4), (Str.ofString "pos", .int pos t5), (Str.ofString "waits", .bool waits)] m ∧
    nws = (I, oi) :: (Nw, W.listOf vn.toArray kn) :: (a, W.listOf vp.toArray np) :: (b, W.listOf vm.toArray nm) :: (c, W.listOf vw.toArray nw) :: tab ∧ TabLed tab ∧ IntsAre vn now ∧ Modes now ∧ tx = lstS now ∧
    (∀ p ∈ (I, oi) :: (a, W.listOf vp.toArray np) :: (b, W.listOf vm.toArray nm) :: (c, W.listOf vw.toArray nw) :: tab, p.1 ≠ Nw) ∧ (∀ p ∈ (Nw, W.listOf vn.toArray kn) :: (a, W.listOf vp.toArray np) :: (b, W.listOf vm.toArray nm) :: (c, W.listOf vw.toArray nw) :: tab, p.1 ≠ I) ∧
    ((waits = false ∧ (now, ou, ps) = target) ∨ (waits = true ∧ kk < 6 ∧ p = pathsL.getD kk Str.empty ∧ 1 ≤ pos ∧ pos ≤ 9 ∧ depS kk < k ∧ climbF k now kk pos ou ps = target))
theorem served_step {ms ws now : List Int} {ou ps wish : Int} {i : Nat} (h : (now, ou, ps) = servedSt ms ws i) (hw : ws[i]? = some wish) : climbF 3 now (wish.fdiv 9).toNat (1 + wish.fmod 9) ou ps = servedSt ms ws (i + 1) := by
  show _ = climbF 3 (servedSt ms ws i).1 ((ws.getD i 0).fdiv 9).toNat (1 + (ws.getD i 0).fmod 9) (servedSt ms ws i).2.1 (servedSt ms ws i).2.2
  rw [← h, List.getD_eq_getElem?_getD, hw]
  rfl
theorem depS_lt : ∀ kk : Nat, depS kk < 3
  | 0 => by decide
  | 1 => by decide
  | 2 => by decide
  | 3 => by decide
  | 4 => by decide
  | 5 => by decide
  | kk + 6 => by
    have : depS (kk + 6) = 0 := rfl
    rw [this]; decide
end Mine
end
section
open PySem PySem.W PyProof.Rows PySem.Calls
namespace Mine
theorem freeOf_none (x : Str) : freeOf (fun _ => false) x = true := by
  unfold freeOf
  simp
theorem kz_dis0 {prog : Program} {w : World} {A : Around} {E : Value → Shared → Prop} {s : Shared} {h₀ : Heap} {L : Addr} {m : Str → Option Value} {news : List (Addr × Obj)} {D : Addr} {o : Obj} {x : Str} {t : Tok} {Q : Value → Shared → Prop} (F : Fr h₀ L s.heap m) (N : News h₀ L s.heap news) (hh : A.handled = none) (hm : (D, o) ∈ news) (hS : FzObj prog w o (fun _ => false))
    (h : ∀ h' tk, Fr h₀ L h' m → News h₀ L h' news → Q (.bool true) { s with heap := h', toks := tk }) :
    wpAny (model prog w) A (call (.builtin "frozenset.isdisjoint") [.ref D, .str x t]) Q E s :=
  kz_dis F N hh hm hS fun h' tk a b => by rw [freeOf_none]; exact h h' tk a b
theorem spec_dirname (w : World) (mean mg mb) (t : Tok) {kk : Nat} (hk : kk < 6) : SpecS w mean mg mb 6 60 false 149 [] [.str (pathsL.getD kk Str.empty) t] (StrPost (pathsL.getD (parS kk) Str.empty)) := by
  have hk' : kk = 0 ∨ kk = 1 ∨ kk = 2 ∨ kk = 3 ∨ kk = 4 ∨ kk = 5 := by omega
  rcases hk' with rfl | rfl | rfl | rfl | rfl | rfl
  · exact spec_dirname0 w mean mg mb t
  · exact spec_dirname1 w mean mg mb t
  · exact spec_dirname2 w mean mg mb t
  · exact spec_dirname3 w mean mg mb t
  · exact spec_dirname4 w mean mg mb t
  · exact spec_dirname5 w mean mg mb t
theorem use_dir {w : World} {mean : ExcName → Option Value} {mg mb : Str → Option Value} {kk : Nat} {p : Str} {tn : Tok} (hk : kk < 6) (hp : p = pathsL.getD kk Str.empty)
    {A : Around} {cenv : Env} {outer : List Env} {A₀ : Around} {base h₀ : Heap} {L : Addr} {m : Str → Option Value} {s : Shared} {Q E : Value → Shared → Prop} {all : List (Addr × Obj)}
    (hA : A.frames = some (cenv :: outer)) (hcf : cenv.frame = some L) (hck : cenv.scope.kind = .function) (B : Below A₀ base outer h₀) (F : Fr h₀ L s.heap m) (X : (Kp w.params).In h₀) (N : News h₀ L s.heap all) (T : Top topProg LS mean mg mb h₀)
    (XB : (Kp w.params).In base) (TB : Top topProg LS mean mg mb base) (D : KtsDicts (outer.filterMap (·.frame)) h₀) (C : CodeHd base 47 43) (r1 : A.depth + 6 < recursionLimit) (r2 : A.units + 60 < cLine)
    (k : ∀ x t h' tk' h₀', x = pathsL.getD (parS kk) Str.empty → KtsTurn (outer.filterMap (·.frame)) h₀ h₀' → Below A₀ base outer h₀' → Fr h₀' L h' m → (Kp w.params).In h₀' → News h₀' L h' all → Top topProg LS mean mg mb h₀' → KtsDicts (outer.filterMap (·.frame)) h₀' → Q (.str x t) { s with heap := h', toks := tk' }) :
    wpAny (model PySem.Challenge.rw_rt0053_01.row.prog w) A (call (.ref 149) [.str p tn]) Q E s := by
  subst hp
  exact use_str (spec_dirname w mean mg mb tn hk) (fun h => nomatch h) hA hcf hck B F X N T XB TB D C r1 r2 fun t h' tk' h₀' a b c d e f g => k _ t h' tk' h₀' rfl a b c d e f g
theorem use_free {w : World} {mean : ExcName → Option Value} {mg mb : Str → Option Value} {x : Str} {t t1 t2 : Tok} {st ps : Int} {tab ex all : List (Addr × Obj)} (ht : TabLed tab) (hx : x.length ≤ 1000000) (hch : ∀ c ∈ x.cps.toList, c < 16 ^ 8) (hst : -1000000 ≤ st) (hst1 : st ≤ 1000000) (h0 : 0 ≤ st + ps) (h1 : st + ps ≤ x.length) (hf1 : Txt.find3 x (Str.ofString "-") (st + ps) < x.length) (hf2 : 0 ≤ Txt.find3 x (Str.ofString "-") (st + ps) → st + ps ≤ Txt.find3 x (Str.ofString "-") (st + ps)) (hb : ps ≤ freeR x st ps ∧ freeR x st ps ≤ 10)
    {A : Around} {cenv : Env} {outer : List Env} {A₀ : Around} {base h₀ : Heap} {L : Addr} {m : Str → Option Value} {s : Shared} {Q E : Value → Shared → Prop}
    (hzA : A.handled = none) (hA : A.frames = some (cenv :: outer)) (hcf : cenv.frame = some L) (hck : cenv.scope.kind = .function) (B : Below A₀ base outer h₀) (F : Fr h₀ L s.heap m) (X : (Kp w.params).In h₀) (N : News h₀ L s.heap all) (T : Top topProg LS mean mg mb h₀)
    (XB : (Kp w.params).In base) (TB : Top topProg LS mean mg mb base) (D : KtsDicts (outer.filterMap (·.frame)) h₀) (C : CodeHd base 47 43) (r1 : A.depth + 8 < recursionLimit) (r2 : A.units + 100 < cLine)
    (hs : ∀ p ∈ tab ++ ex, p ∈ all) (hnr : ∀ p ∈ tab, ∀ q ∈ ex, q.1 ≠ p.1)
    (k : ∀ pl tok tab' h' tk' h₀', pl = freeR x st ps → ps ≤ pl → pl ≤ 10 → TabLed tab' → (∀ p ∈ tab', ∀ q ∈ ex, q.1 ≠ p.1) → KtsTurn (outer.filterMap (·.frame)) h₀ h₀' → Below A₀ base outer h₀' → Fr h₀' L h' m → (Kp w.params).In h₀' → News h₀' L h' (ex ++ tab') → Top topProg LS mean mg mb h₀' → KtsDicts (outer.filterMap (·.frame)) h₀' → Q (.int pl tok) { s with heap := h', toks := tk' }) :
    wpAny (model PySem.Challenge.rw_rt0053_01.row.prog w) A (call (.ref 210) [.str x t, .int st t1, .int ps t2]) Q E s := by
  refine (spec_free w mean mg mb x t st t1 ps t2 hx hch hst hst1 h0 h1 hf1 hf2 ht).use (rest := ex) (fun _ => hzA) hA hcf hck B F X N T XB TB D C r1 r2 hs hnr ?_
  rintro v tab' h' tk' h₀' ⟨⟨tok, rfl⟩, ht'⟩ a b c d e f g i
  exact k _ tok tab' h' tk' h₀' rfl hb.1 hb.2 ht' a b c d e (fun p hp => f p ((List.mem_append.mp hp).elim (List.mem_append_right _) (List.mem_append_left _))) g i
theorem isStrOf_at (k : Str) : ∀ {vs : List Value} {ys : List Str} {j : Nat} {v : Value}, StrsAre vs ys → vs[j]? = some v → isStrOf k v = decide (ys.getD j Str.empty = k)
  | _, _, j, v, .nil, e => by simp at e
  | _, _, 0, v, .cons x t h, e => by
    have : v = .str x t := by simpa using e.symm
    rw [this]
    show (_ : Bool) = decide (x = k)
    unfold isStrOf
    by_cases hx : x = k <;> simp [hx]
  | _, _, j + 1, v, .cons x t h, e => isStrOf_at k (j := j) h (by simpa using e)
theorem paths_apart (i j : Nat) (hi : i < 6) (hj : j < 6) (hn : i ≠ j) : pathsL.getD i Str.empty ≠ pathsL.getD j Str.empty := by
  have all : ∀ i : Fin 6, ∀ j : Fin 6, i ≠ j → pathsL.getD i.val Str.empty ≠ pathsL.getD j.val Str.empty := by decide
  exact all ⟨i, hi⟩ ⟨j, hj⟩ (fun e => hn (congrArg Fin.val e))
theorem index_path {prog : Program} {w : World} {A : Around} {E : Value → Shared → Prop} {s : Shared} {l : Addr} {vs : List Value} {kk : Nat} {p : Str} {t : Tok} {Q : Value → Shared → Prop} (hl : s.heap.IsList l vs.toArray) (hw : StrsAre vs pathsL) (hk : kk < 6) (hp : p = pathsL.getD kk Str.empty)
    (h : Q (.int (kk : Nat) s.toks) { s with toks := s.toks + 1 }) : wpAny (model prog w) A (call (.builtin "list.index") [.ref l, .str p t]) Q E s := by
  obtain ⟨⟨cls, dd, data, sl⟩, ho, hc, n, hd⟩ := id hl
  simp only at hc hd
  subst hc hd
  have hlen : vs.length = 6 := hw.length
  have at' : ∀ j (hj : j < vs.length), isStrOf p vs[j] = decide (pathsL.getD j Str.empty = p) := fun j hj => isStrOf_at p hw (List.getElem?_eq_getElem hj)
  refine call_meets PySem.F.slot_list_index ⟨_, ho, rfl⟩ PySem.F.entry_list_index (PySem.F.args_list_index_2 _ _)
    (PySem.SeqAt.list_indexAt l vs.toArray n dd sl (.str p t) (isStrOf p) kk (by simpa [hlen] using hk) (by omega) ?_ ?_) ⟨ho, fun y hy => (eq_isStrOf p t hw y (by simpa using hy)).at _ _, h⟩
  · show isStrOf p vs[kk] = true
    rw [at' kk (by omega), hp]
    exact decide_eq_true rfl
  · intro j hjs hlt
    show isStrOf p vs[j] = false
    have hj : j < vs.length := by simpa using hjs
    rw [at' j hj, hp]
    exact decide_eq_false (paths_apart j kk (by omega) hk (by omega))
theorem gen_ints {vs : List Value} {ns : List Int} (h : IntsAre vs ns) : ∃ n5, n5 = ns ∧ IntsAre vs n5 := ⟨ns, rfl, h⟩
end Mine
end
section
open PySem PySem.W PyProof.Rows
namespace Mine
noncomputable def cl (x : Str) : List Nat := x.cps.toList
theorem cl_app (x y : Str) : cl (x ++ y) = cl x ++ cl y := by
  show (x.cps ++ y.cps).toList = _
  rw [Array.toList_append]; rfl
theorem cl_inj {x y : Str} (h : cl x = cl y) : x = y := by
  cases x; cases y
  congr 1
  exact Array.toList_inj.mp h
theorem cl_len (x : Str) : x.length = (cl x).length := rfl
theorem cl_join (l : List Str) : cl (Txt.join (Str.ofString "") l) = l.flatMap cl := by
  have e : Str.ofString "" = (⟨#[]⟩ : Str) := by decide
  have : Txt.join (Str.ofString "") l = Str.join ⟨#[]⟩ l := by
    rw [← StrLaws.glued_eq_join, e]; rfl
  rw [this]
  induction l with
  | nil => rfl
  | cons x r ih => 
    rw [join_nil_cons, cl_app, ih (by rw [← StrLaws.glued_eq_join, e]; rfl), List.flatMap_cons]
theorem one_cl {x : Str} (h : x.length = 1) : cl x = [x.cps.toList.headD 0] := by
  have h' : x.cps.toList.length = 1 := h
  unfold cl
  cases hx : x.cps.toList with
  | nil => rw [hx] at h'; simp at h'
  | cons a r =>
    rw [hx] at h'
    have : r = [] := by simpa using h'
    rw [this]; rfl
theorem rowC_all {P : Str → Prop} (h1 : P (Str.ofString "?")) (h2 : P (Str.ofString "-")) (n : Int) (i : Nat) {es : List (Int × Str)} (h : ∀ p ∈ es, P p.2) : P (rowC n i es) := by
  unfold rowC
  split
  · rename_i p e
    exact h p (List.mem_of_find?_eq_some e)
  · split
    · exact h1
    · exact h2
theorem rows_prop {P : Str → Prop} (h : ∀ r ∈ rowsT, ∀ p ∈ r, P p.2) (i : Nat) : ∀ p ∈ rowsT.getD i [], P p.2 := by
  intro p hp
  rw [List.getD_eq_getElem?_getD] at hp
  cases e : rowsT[i]? with
  | none => rw [e] at hp; simp at hp
  | some r => rw [e] at hp; exact h r (List.mem_of_getElem? e) p hp
theorem sc_one (n : Int) (i : Nat) : (rowC n i (rowsT.getD i [])).length = 1 :=
  rowC_all (P := fun x => x.length = 1) (by decide) (by decide) n i (rows_prop (P := fun x => x.length = 1) (by decide) i)
theorem sc_ok (n : Int) (i : Nat) : sc n i ≠ 10 ∧ sc n i < 128 :=
  rowC_all (P := fun x => x.cps.toList.headD 0 ≠ 10 ∧ x.cps.toList.headD 0 < 128) (by decide) (by decide) n i (rows_prop (P := fun x => x.cps.toList.headD 0 ≠ 10 ∧ x.cps.toList.headD 0 < 128) (by decide) i)
theorem fm_cl (n : Int) : cl (fmS n) = [sc n 0, sc n 1, sc n 2, sc n 3, sc n 4, sc n 5, sc n 6, sc n 7, sc n 8, sc n 9] := by
  unfold fmS
  rw [cl_join]
  have e : fmL n = [rowC n 0 (rowsT.getD 0 []), rowC n 1 (rowsT.getD 1 []), rowC n 2 (rowsT.getD 2 []), rowC n 3 (rowsT.getD 3 []), rowC n 4 (rowsT.getD 4 []), rowC n 5 (rowsT.getD 5 []), rowC n 6 (rowsT.getD 6 []), rowC n 7 (rowsT.getD 7 []), rowC n 8 (rowsT.getD 8 []), rowC n 9 (rowsT.getD 9 [])] := rfl
  rw [e]
  simp only [List.flatMap_cons, List.flatMap_nil, one_cl (sc_one n _)]
  rfl
/-- a right at place p may be given -/
noncomputable def fr (n : Int) (p : Nat) : Bool := !bt n (9 - p) && !(p % 3 == 0 && bt n (12 - p / 3))
theorem sc_dash {n : Int} (h : 0 ≤ n) {p : Nat} (h1 : 1 ≤ p) (h2 : p ≤ 9) : sc n p = 45 ↔ fr n p = true := by
  have ifs : ∀ (b : Bool) (c : Str), c.cps.toList.headD 0 ≠ 45 → (((if b = true then c else Str.ofString "-").cps.toList.headD 0 = 45) ↔ (!b) = true) := by
    intro b c hc
    cases b
    · simp; decide
    · simpa using hc
  have ift : ∀ (b d : Bool) (c1 c2 c3 : Str), c1.cps.toList.headD 0 ≠ 45 → c2.cps.toList.headD 0 ≠ 45 → c3.cps.toList.headD 0 ≠ 45 →
      (((if b = true then (if d = true then c1 else c3) else (if d = true then c2 else Str.ofString "-")).cps.toList.headD 0 = 45) ↔ (!b && !d) = true) := by
    intro b d c1 c2 c3 k1 k2 k3
    cases b <;> cases d
    · simp; decide
    · simpa using k2
    · simpa using k3
    · simpa using k1
  have hp : p = 1 ∨ p = 2 ∨ p = 3 ∨ p = 4 ∨ p = 5 ∨ p = 6 ∨ p = 7 ∨ p = 8 ∨ p = 9 := by omega
  unfold sc fr
  rcases hp with rfl | rfl | rfl | rfl | rfl | rfl | rfl | rfl | rfl
  · rw [show rowsT.getD 1 [] = [((256 : Int), Str.ofString "r")] from rfl, row1 n 1 8 _ _ (by decide) (by decide), ifs _ _ (by decide)]; simp
  · rw [show rowsT.getD 2 [] = [((128 : Int), Str.ofString "w")] from rfl, row1 n 2 7 _ _ (by decide) (by decide), ifs _ _ (by decide)]; simp
  · rw [show rowsT.getD 3 [] = [((2112 : Int), Str.ofString "s"), (2048, Str.ofString "S"), (64, Str.ofString "x")] from rfl, row3 h 3 6 11 _ _ _ _ _ _ (by decide) (by decide) (by decide) (by decide) (by decide), ift _ _ _ _ _ (by decide) (by decide) (by decide)]; simp
  · rw [show rowsT.getD 4 [] = [((32 : Int), Str.ofString "r")] from rfl, row1 n 4 5 _ _ (by decide) (by decide), ifs _ _ (by decide)]; simp
  · rw [show rowsT.getD 5 [] = [((16 : Int), Str.ofString "w")] from rfl, row1 n 5 4 _ _ (by decide) (by decide), ifs _ _ (by decide)]; simp
  · rw [show rowsT.getD 6 [] = [((1032 : Int), Str.ofString "s"), (1024, Str.ofString "S"), (8, Str.ofString "x")] from rfl, row3 h 6 3 10 _ _ _ _ _ _ (by decide) (by decide) (by decide) (by decide) (by decide), ift _ _ _ _ _ (by decide) (by decide) (by decide)]; simp
  · rw [show rowsT.getD 7 [] = [((4 : Int), Str.ofString "r")] from rfl, row1 n 7 2 _ _ (by decide) (by decide), ifs _ _ (by decide)]; simp
  · rw [show rowsT.getD 8 [] = [((2 : Int), Str.ofString "w")] from rfl, row1 n 8 1 _ _ (by decide) (by decide), ifs _ _ (by decide)]; simp
  · rw [show rowsT.getD 9 [] = [((513 : Int), Str.ofString "t"), (512, Str.ofString "T"), (1, Str.ofString "x")] from rfl, row3 h 9 0 9 _ _ _ _ _ _ (by decide) (by decide) (by decide) (by decide) (by decide), ift _ _ _ _ _ (by decide) (by decide) (by decide)]; simp
/-- the listing, sign by sign -/
noncomputable def lstC (s : Nat → Nat → Nat) : List Nat :=
  [10, 47, 32, s 0 0, s 0 1, s 0 2, s 0 3, s 0 4, s 0 5, s 0 6, s 0 7, s 0 8, s 0 9, 46,
   10, 47, 45, 32, s 1 0, s 1 1, s 1 2, s 1 3, s 1 4, s 1 5, s 1 6, s 1 7, s 1 8, s 1 9, 46,
   10, 47, 98, 32, s 2 0, s 2 1, s 2 2, s 2 3, s 2 4, s 2 5, s 2 6, s 2 7, s 2 8, s 2 9, 46,
   10, 47, 45, 47, 45, 32, s 3 0, s 3 1, s 3 2, s 3 3, s 3 4, s 3 5, s 3 6, s 3 7, s 3 8, s 3 9, 46,
   10, 47, 45, 47, 98, 45, 32, s 4 0, s 4 1, s 4 2, s 4 3, s 4 4, s 4 5, s 4 6, s 4 7, s 4 8, s 4 9, 46,
   10, 47, 98, 47, 99, 32, s 5 0, s 5 1, s 5 2, s 5 3, s 5 4, s 5 5, s 5 6, s 5 7, s 5 8, s 5 9, 46]
theorem lst_cl (ms : List Int) : cl (lstS ms) = lstC fun k p => sc (ms.getD k 0) p := by
  unfold lstS lstL
  rw [cl_join]
  have r : ∀ i n, cl (rowS i (fmS n)) = 10 :: (cl (pathsL.getD i Str.empty) ++ 32 :: ([sc n 0, sc n 1, sc n 2, sc n 3, sc n 4, sc n 5, sc n 6, sc n 7, sc n 8, sc n 9] ++ [46])) := by
    intro i n
    unfold rowS
    rw [cl_app, cl_app, cl_app, cl_app, fm_cl]
    have a : cl (Str.ofString "\n") = [10] := by decide
    have b : cl (Str.ofString " ") = [32] := by decide
    have c : cl (Str.ofString ".") = [46] := by decide
    rw [a, b, c]
    simp
  simp only [List.flatMap_cons, List.flatMap_nil, r]
  have p0 : cl (pathsL.getD 0 Str.empty) = [47] := by decide
  have p1 : cl (pathsL.getD 1 Str.empty) = [47, 45] := by decide
  have p2 : cl (pathsL.getD 2 Str.empty) = [47, 98] := by decide
  have p3 : cl (pathsL.getD 3 Str.empty) = [47, 45, 47, 45] := by decide
  have p4 : cl (pathsL.getD 4 Str.empty) = [47, 45, 47, 98, 45] := by decide
  have p5 : cl (pathsL.getD 5 Str.empty) = [47, 98, 47, 99] := by decide
  rw [p0, p1, p2, p3, p4, p5]
  rfl
end Mine
end
section
open PySem PySem.W PyProof.Rows PySem.Builtin.Str
namespace Mine
/-- where a line's end may stand -/
noncomputable def NlAt : List Nat → Nat → (Nat → Prop) → Prop
  | [], _, _ => True
  | a :: r, k, P => (a = 10 → P k) ∧ NlAt r (k + 1) P
theorem nlAt_get {P : Nat → Prop} : ∀ {l : List Nat} {k : Nat}, NlAt l k P → ∀ j, l.getD j 0 = 10 → P (k + j)
  | [], _, _, j, h => by simp at h
  | a :: r, k, hl, 0, h => hl.1 (by simpa using h)
  | a :: r, k, hl, j + 1, h => by
    have := nlAt_get hl.2 j (by simpa using h)
    rw [show k + (j + 1) = k + 1 + j by omega]
    exact this
noncomputable abbrev RowB (j : Nat) : Prop := j = 0 ∨ j = 14 ∨ j = 29 ∨ j = 44 ∨ j = 61 ∨ j = 79
theorem nl_only {s : Nat → Nat → Nat} (hs : ∀ k p, s k p ≠ 10) (j : Nat) (h : (lstC s).getD j 0 = 10) : RowB j := by
  have hl : NlAt (lstC s) 0 RowB := by
    unfold lstC
    repeat' (first
      | exact trivial
      | (with_reducible refine And.intro ?_ ?_)
      | (with_reducible intro h; exact absurd h (hs _ _))
      | (intro _; decide)
      | (intro h; exact absurd h (by decide))
      | (show (_ = 10 → RowB _) ∧ NlAt _ _ RowB))
  have := nlAt_get hl j h
  rwa [Nat.zero_add] at this
noncomputable def rowO (k : Nat) : Nat := [0, 14, 29, 44, 61, 79].getD k 0
noncomputable def oN (k : Nat) : Nat := [3, 18, 33, 50, 68, 85].getD k 0
theorem offS_oN : ∀ {k : Nat}, k < 6 → offS k = (oN k : Int)
  | 0, _ => rfl
  | 1, _ => rfl
  | 2, _ => rfl
  | 3, _ => rfl
  | 4, _ => rfl
  | 5, _ => rfl
  | _ + 6, h => absurd h (by omega)
theorem six {k : Nat} (h : k < 6) : k = 0 ∨ k = 1 ∨ k = 2 ∨ k = 3 ∨ k = 4 ∨ k = 5 := by omega
theorem char_at (s : Nat → Nat → Nat) {k p : Nat} (hk : k < 6) (hp : p < 10) : (lstC s).getD (oN k + p) 0 = s k p := by
  have hp' : p = 0 ∨ p = 1 ∨ p = 2 ∨ p = 3 ∨ p = 4 ∨ p = 5 ∨ p = 6 ∨ p = 7 ∨ p = 8 ∨ p = 9 := by omega
  rcases six hk with rfl | rfl | rfl | rfl | rfl | rfl <;> rcases hp' with rfl | rfl | rfl | rfl | rfl | rfl | rfl | rfl | rfl | rfl <;> rfl
theorem dot_at (s : Nat → Nat → Nat) {k : Nat} (hk : k < 6) : (lstC s).getD (oN k + 10) 0 = 46 := by
  rcases six hk with rfl | rfl | rfl | rfl | rfl | rfl <;> rfl
theorem nl_next (s : Nat → Nat → Nat) {k : Nat} (hk : k < 5) : (lstC s).getD (oN k + 11) 0 = 10 := by
  rcases six (show k < 6 by omega) with rfl | rfl | rfl | rfl | rfl | rfl <;> first | rfl | omega
theorem nl_row {s : Nat → Nat → Nat} (hs : ∀ k p, s k p ≠ 10) {k j : Nat} (hk : k < 6) (h0 : oN k ≤ j) (h1 : j ≤ oN k + 10) : (lstC s).getD j 0 ≠ 10 := fun h => by
  have hb := nl_only hs j h
  unfold RowB at hb
  rcases six hk with rfl | rfl | rfl | rfl | rfl | rfl <;> simp only [oN, List.getD_cons_zero, List.getD_cons_succ] at h0 h1 <;> omega
theorem lst_len (ms : List Int) : (lstS ms).length = 96 := by rw [cl_len, lst_cl]; rfl
theorem lst_ok (ms : List Int) : ∀ c ∈ (lstS ms).cps.toList, c < 16 ^ 8 := by
  show ∀ c ∈ cl (lstS ms), c < 16 ^ 8
  rw [lst_cl]
  have hs : ∀ k p, sc (ms.getD k 0) p < 16 ^ 8 := fun k p => Nat.lt_trans (sc_ok _ p).2 (by decide)
  unfold lstC
  repeat' (first
    | exact List.forall_mem_nil _
    | (with_reducible refine List.forall_mem_cons.mpr ⟨?_, ?_⟩)
    | (with_reducible exact hs _ _)
    | decide)
noncomputable def pk (k : Nat) : Str := Str.ofString "\n" ++ pathsL.getD k Str.empty ++ Str.ofString " "
noncomputable def pkC (k : Nat) : List Nat := [[10, 47, 32], [10, 47, 45, 32], [10, 47, 98, 32], [10, 47, 45, 47, 45, 32], [10, 47, 45, 47, 98, 45, 32], [10, 47, 98, 47, 99, 32]].getD k []
theorem pk_cl {k : Nat} (hk : k < 6) : cl (pk k) = pkC k := by
  rcases six hk with rfl | rfl | rfl | rfl | rfl | rfl <;> decide
theorem at_row (ms : List Int) {k : Nat} (hk : k < 6) : StrLaws.At (lstS ms) (pk k) (lstS ms).length (rowO k) := by
  refine ⟨?_, ?_⟩
  · rw [lst_len, cl_len, pk_cl hk]
    rcases six hk with rfl | rfl | rfl | rfl | rfl | rfl <;> decide
  · rw [StrLaws.subAt_eq]
    show (((cl (lstS ms)).drop (rowO k)).take (cl (pk k)).length == cl (pk k)) = true
    rw [lst_cl, pk_cl hk]
    rcases six hk with rfl | rfl | rfl | rfl | rfl | rfl <;> rfl
theorem no_at (ms : List Int) {k j : Nat} (hk : k < 6) (hj : j < rowO k) : ¬ StrLaws.At (lstS ms) (pk k) (lstS ms).length j := by
  rintro ⟨_, h⟩
  rw [StrLaws.subAt_eq] at h
  have h' : (((cl (lstS ms)).drop j).take (cl (pk k)).length == cl (pk k)) = true := h
  rw [lst_cl, pk_cl hk] at h'
  have hb : RowB j := by
    refine nl_only (fun k p => (sc_ok (ms.getD k 0) p).1) j ?_
    have e := eq_of_beq h'
    have e0 : (((lstC fun k p => sc (ms.getD k 0) p).drop j).take (pkC k).length)[0]? = some 10 := by
      rw [e]
      rcases six hk with rfl | rfl | rfl | rfl | rfl | rfl <;> rfl
    have hpos : 0 < (pkC k).length := by rcases six hk with rfl | rfl | rfl | rfl | rfl | rfl <;> decide
    rw [List.getElem?_take_of_lt hpos, List.getElem?_drop] at e0
    rw [List.getD_eq_getElem?_getD]
    simp only [Nat.add_zero] at e0
    rw [e0]; rfl
  unfold RowB at hb
  rcases six hk with rfl | rfl | rfl | rfl | rfl | rfl <;> simp only [rowO, List.getD_cons_zero, List.getD_cons_succ] at hj <;>
    rcases hb with rfl | rfl | rfl | rfl | rfl | rfl <;> first | omega | (exact absurd h' (by intro q; exact Bool.noConfusion ((show (_ : Bool) = false from rfl).symm.trans q)))
theorem find_row (ms : List Int) {k : Nat} (hk : k < 6) : Txt.find3 (lstS ms) (pk k) 0 = (rowO k : Int) := by
  unfold Txt.find3
  have e0 : fromIndex (lstS ms).length 0 = 0 := by simp [fromIndex]
  rw [e0]
  rcases StrLaws.occ_head_from (lstS ms) (pk k) 0 1 (Nat.le_refl 1) with ⟨_, hn⟩ | ⟨i, r, hi, _, ha, hn⟩
  · exact absurd (at_row ms hk) (hn _ (Nat.zero_le _))
  · rw [hi]
    have : i = rowO k := by
      rcases Nat.lt_trichotomy i (rowO k) with h | h | h
      · exact absurd ha (no_at ms hk h)
      · exact h
      · exact absurd (at_row ms hk) (hn _ (Nat.zero_le _) h)
    rw [this]
theorem cps_getD (x : Str) (v : Nat) : x.cps.getD v 0 = (cl x).getD v 0 := by
  obtain ⟨⟨l⟩⟩ := x
  show (Array.mk l).getD v 0 = l.getD v 0
  simp [Array.getD, List.getD_eq_getElem?_getD]
  split
  · rename_i h; rw [List.getElem?_eq_getElem h]; rfl
  · rename_i h; rw [List.getElem?_eq_none (by omega)]; rfl
theorem freeOf_nl (x : Str) : freeOf (fun k => decide (k = Str.ofString "\n")) x = true ↔ ∀ c ∈ cl x, c ≠ 10 := by
  unfold freeOf cl
  rw [List.all_eq_true]
  have e : Str.ofString "\n" = (⟨#[10]⟩ : Str) := by decide
  constructor
  · intro h c hc q
    have := h c hc
    rw [q, e] at this
    simp at this
  · intro h c hc
    have := h c hc
    simp only [Bool.not_eq_true', decide_eq_false_iff_not]
    rw [e]
    intro q
    apply this
    have := congrArg Str.cps q
    simpa using this
theorem slice_cl {x : Str} {i j : Nat} (h : i ≤ j) (hj : j ≤ x.length) : cl (Txt.slice x (some (i : Int)) (some (j : Int))) = ((cl x).drop i).take (j - i) := by
  show cl (StrLaws.sliceText x (some (i : Int)) (some (j : Int))) = _
  rw [StrLaws.sliceText_nat x h hj]
  rfl
theorem mem_cut {l : List Nat} {i n c : Nat} (h : c ∈ (l.drop i).take n) : ∃ j, i ≤ j ∧ j < i + n ∧ l.getD j 0 = c := by
  obtain ⟨j, hj⟩ := List.mem_iff_getElem?.mp h
  have hlt : j < n := by
    rcases Nat.lt_or_ge j n with h | h
    · exact h
    · rw [List.getElem?_take_eq_none h] at hj; cases hj
  rw [List.getElem?_take_of_lt hlt, List.getElem?_drop] at hj
  exact ⟨i + j, by omega, by omega, by rw [List.getD_eq_getElem?_getD, hj]; rfl⟩
theorem cut_mem {l : List Nat} {i n j c : Nat} (h0 : i ≤ j) (h1 : j < i + n) (hl : j < l.length) (hc : l.getD j 0 = c) : c ∈ (l.drop i).take n := by
  refine List.mem_iff_getElem?.mpr ⟨j - i, ?_⟩
  rw [List.getElem?_take_of_lt (by omega), List.getElem?_drop, show i + (j - i) = j by omega]
  rw [List.getD_eq_getElem?_getD, List.getElem?_eq_getElem hl] at hc
  rw [List.getElem?_eq_getElem hl]
  exact congrArg some hc
theorem oN_le : ∀ {k : Nat}, k < 6 → oN k ≤ 85
  | 0, _ => by decide
  | 1, _ => by decide
  | 2, _ => by decide
  | 3, _ => by decide
  | 4, _ => by decide
  | 5, _ => by decide
  | _ + 6, h => absurd h (by omega)
/-- the place that a wish gets: the first free one from pos on -/
theorem free_spec (ms : List Int) {k q : Nat} (hk : k < 6) (hm : 0 ≤ ms.getD k 0) (h1 : 1 ≤ q) (h9 : q ≤ 9) :
    Txt.find3 (lstS ms) (Str.ofString "-") (offS k + (q : Int)) < (lstS ms).length ∧
    (0 ≤ Txt.find3 (lstS ms) (Str.ofString "-") (offS k + (q : Int)) → offS k + (q : Int) ≤ Txt.find3 (lstS ms) (Str.ofString "-") (offS k + (q : Int))) ∧
    ∃ r : Nat, freeR (lstS ms) (offS k) (q : Int) = (r : Int) ∧ q ≤ r ∧ r ≤ 10 ∧ (∀ p, q ≤ p → p < r → fr (ms.getD k 0) p = false) ∧ (r < 10 → fr (ms.getD k 0) r = true) := by
  have ho := offS_oN hk
  have hol := oN_le hk
  have hs : ∀ k p, (fun k p => sc (ms.getD k 0) p) k p ≠ 10 := fun k p => (sc_ok (ms.getD k 0) p).1
  have eD : Str.ofString "-" = (⟨#[45]⟩ : Str) := by decide
  have hlen := lst_len ms
  have eI : fromIndex (lstS ms).length (offS k + (q : Int)) = oN k + q := by
    unfold fromIndex
    rw [ho, if_neg (by omega)]
    omega
  have hch : ∀ v, (lstS ms).cps.getD v 0 = (lstC fun k p => sc (ms.getD k 0) p).getD v 0 := fun v => by rw [cps_getD, lst_cl]
  have hfr : ∀ p, 1 ≤ p → p ≤ 9 → ((lstS ms).cps.getD (oN k + p) 0 = 45 ↔ fr (ms.getD k 0) p = true) := fun p a b => by
    rw [hch, char_at _ hk (by omega)]
    exact sc_dash hm a b
  have hsp := StrLaws.find3_spec (lstS ms) 45 (offS k + (q : Int))
  rw [← eD, eI] at hsp
  rcases hsp with ⟨hf, hn⟩ | ⟨v, hf, hv0, hv1, hv, hn⟩
  · refine ⟨by rw [hf]; omega, by rw [hf]; omega, 10, ?_, by omega, by omega, ?_, by omega⟩
    · unfold freeR
      rw [hf, if_neg (by omega)]
      rfl
    · intro p a b
      cases e : fr (ms.getD k 0) p with
      | false => rfl
      | true => exact absurd ((hfr p (by omega) (by omega)).mpr e) (hn _ (by omega) (by omega))
  · refine ⟨by rw [hf]; omega, by rw [hf, ho]; omega, ?_⟩
    rw [hlen] at hv1
    have hcut : cl (Txt.slice (lstS ms) (some (offS k + (q : Int))) (some (v : Int))) = ((lstC fun k p => sc (ms.getD k 0) p).drop (oN k + q)).take (v - (oN k + q)) := by
      rw [ho, show ((oN k : Int) + (q : Int)) = ((oN k + q : Nat) : Int) by omega, slice_cl hv0 (by omega), lst_cl]
    by_cases hr : v < oN k + 10
    · refine ⟨v - oN k, ?_, by omega, by omega, ?_, ?_⟩
      · unfold freeR
        rw [hf, if_pos (by omega), if_pos, ho]
        · omega
        · rw [freeOf_nl, hcut]
          intro c hc q10
          obtain ⟨j, a, b, e⟩ := mem_cut hc
          exact nl_row hs hk (j := j) (by omega) (by omega) (e.trans q10)
      · intro p a b
        cases e : fr (ms.getD k 0) p with
        | false => rfl
        | true => exact absurd ((hfr p (by omega) (by omega)).mpr e) (hn _ (by omega) (by omega))
      · intro _
        refine (hfr _ (by omega) (by omega)).mp ?_
        rw [show oN k + (v - oN k) = v by omega]
        exact hv
    · have n10 : v ≠ oN k + 10 := fun e => by
        rw [e, hch, dot_at _ hk] at hv
        exact absurd hv (by decide)
      have hk5 : k < 5 := by
        rcases Nat.lt_or_ge k 5 with h | h
        · exact h
        · have : k = 5 := by omega
          subst this
          have : oN 5 = 85 := rfl
          omega
      have n11 : v ≠ oN k + 11 := fun e => by
        rw [e, hch, nl_next _ hk5] at hv
        exact absurd hv (by decide)
      refine ⟨10, ?_, by omega, by omega, ?_, by omega⟩
      · unfold freeR
        rw [hf, if_pos (by omega), if_neg]
        · rfl
        · rw [freeOf_nl, hcut]
          intro hc
          exact hc 10 (cut_mem (j := oN k + 11) (by omega) (by omega) (by show _ < 96; omega) (nl_next _ hk5)) rfl
      · intro p a b
        cases e : fr (ms.getD k 0) p with
        | false => rfl
        | true => exact absurd ((hfr p (by omega) (by omega)).mpr e) (hn _ (by omega) (by omega))
theorem six_of {ms : List Int} (hl : ms.length = 6) : ∃ a b c d e f, ms = [a, b, c, d, e, f] := by
  rcases ms with _ | ⟨a, _ | ⟨b, _ | ⟨c, _ | ⟨d, _ | ⟨e, _ | ⟨f, _ | ⟨g, r⟩⟩⟩⟩⟩⟩⟩
  case cons.cons.cons.cons.cons.cons.nil => exact ⟨a, b, c, d, e, f, rfl⟩
  all_goals (simp only [List.length_cons, List.length_nil] at hl; omega)
theorem row_new (g : Int → Nat → Nat) (a b c d e f v : Int) {k : Nat} (hk : k < 6) :
    (lstC fun k p => g ([a, b, c, d, e, f].getD k 0) p).take (oN k) ++ [g v 0, g v 1, g v 2, g v 3, g v 4, g v 5, g v 6, g v 7, g v 8, g v 9] ++ (lstC fun k p => g ([a, b, c, d, e, f].getD k 0) p).drop (oN k + 10) = lstC fun j p => g (([a, b, c, d, e, f].set k v).getD j 0) p := by
  rcases six hk with rfl | rfl | rfl | rfl | rfl | rfl <;> rfl
theorem cut_to {x : Str} {n : Nat} (hl : x.length = 96) (hn : n ≤ 96) : cl (Txt.slice x none (some (n : Int))) = (cl x).take n := by
  have hl' : x.cps.toList.length = 96 := hl
  show cl (StrLaws.sliceText x none (some (n : Int))) = _
  rw [StrLaws.sliceText_to ⟨by omega, by omega⟩]
  show ((cl x).drop 0).take ((n : Int) - 0).toNat = _
  rw [List.drop_zero]
  congr 1
theorem cut_from {x : Str} {n : Nat} (hl : x.length = 96) (hn : n + 10 ≤ 96) : cl (Txt.slice x (some ((n : Int) + 10)) none) = (cl x).drop (n + 10) := by
  have hl' : x.cps.toList.length = 96 := hl
  show cl (StrLaws.sliceText x (some ((n : Int) + 10)) none) = _
  rw [StrLaws.sliceText_from ⟨by omega, by omega⟩]
  show ((cl x).drop ((n : Int) + 10).toNat).take _ = _
  rw [show ((n : Int) + 10).toNat = n + 10 by omega]
  refine List.take_of_length_le ?_
  rw [List.length_drop]
  show x.cps.toList.length - (n + 10) ≤ _
  omega
/-- a row shown anew -/
theorem slice_row {ms : List Int} (hl : ms.length = 6) {k : Nat} (hk : k < 6) (v : Int) : Txt.slice (lstS ms) none (some (offS k)) ++ fmS v ++ Txt.slice (lstS ms) (some (offS k + 10)) none = lstS (ms.set k v) := by
  have hol := oN_le hk
  have hlen := lst_len ms
  apply cl_inj
  rw [offS_oN hk, cl_app, cl_app, cut_to hlen (by omega), cut_from hlen (by omega), fm_cl, lst_cl, lst_cl]
  obtain ⟨a, b, c, d, e, f, rfl⟩ := six_of hl
  exact row_new sc a b c d e f v hk
/-- a right that is given -/
theorem fr_range {n : Int} (h0 : 0 ≤ n) (h1 : n < 65536) {r : Nat} (hr1 : 1 ≤ r) (hr : r < 10) (h : fr n r = true) : 0 ≤ n + 2 ^ (9 - r) ∧ n + 2 ^ (9 - r) < 65536 := by
  have hb : bt n (9 - r) = false := by
    unfold fr at h
    simp only [Bool.and_eq_true, Bool.not_eq_true'] at h
    exact h.1
  exact room_add (by omega) h0 h1 (bt_zero hb)
end Mine
end
section
open PySem PySem.W PyProof.Rows
namespace Mine
theorem bt_add {m : Int} {a i : Nat} (_ : a ≤ 8) (_ : i ≤ 11) (hn : a ≠ i) (h : bt m a = false) : bt (m + 2 ^ a) i = bt m i := by
  have h' := bt_zero h
  refine decide_eq_decide.mpr ?_
  have hp : ∀ n : Nat, (0 : Int) < 2 ^ n := fun n => Int.pow_pos (by decide)
  rcases Nat.lt_or_gt_of_ne hn with g | g
  · obtain ⟨k, rfl⟩ : ∃ k, i = a + 1 + k := ⟨i - (a + 1), by omega⟩
    have e : (m + 2 ^ a) / 2 ^ (a + 1) = m / 2 ^ (a + 1) := by
      rw [Int.pow_succ, ← Int.ediv_ediv_of_nonneg (Int.le_of_lt (hp a)), ← Int.ediv_ediv_of_nonneg (Int.le_of_lt (hp a)), add_p (hp a)]
      omega
    rw [Int.pow_add, ← Int.ediv_ediv_of_nonneg (Int.le_of_lt (hp (a + 1))), ← Int.ediv_ediv_of_nonneg (Int.le_of_lt (hp (a + 1))), e]
  · obtain ⟨k, rfl⟩ : ∃ k, a = i + (1 + k) := ⟨a - (i + 1), by omega⟩
    rw [Int.pow_add, Int.add_mul_ediv_left _ _ (Int.ne_of_gt (hp i)), Int.pow_add]
    omega
theorem bt_set {m : Int} {a : Nat} (_ : a ≤ 8) (h : bt m a = false) : bt (m + 2 ^ a) a = true := by
  have h' := bt_zero h
  refine decide_eq_true ?_
  rw [add_p (Int.pow_pos (by decide))]
  omega
theorem fr_bt {m : Int} {p : Nat} (h : fr m p = true) : bt m (9 - p) = false := by
  unfold fr at h
  simp only [Bool.and_eq_true, Bool.not_eq_true'] at h
  exact h.1
theorem fr_other {m : Int} {a p : Nat} (ha0 : 1 ≤ a) (ha : a ≤ 9) (hp0 : 1 ≤ p) (hp : p ≤ 9) (hn : a ≠ p) (h : fr m a = true) : fr (m + 2 ^ (9 - a)) p = fr m p := by
  have hb := fr_bt h
  unfold fr
  rw [bt_add (by omega) (by omega) (by omega) hb]
  by_cases h3 : p % 3 = 0
  · rw [bt_add (by omega) (by omega) (by omega) hb]
  · have : (p % 3 == 0) = false := by simpa using h3
    rw [this]; simp
theorem fr_self {m : Int} {a : Nat} (ha0 : 1 ≤ a) (ha : a ≤ 9) (h : fr m a = true) : fr (m + 2 ^ (9 - a)) a = false := by
  have hb := fr_bt h
  unfold fr
  rw [bt_set (by omega) hb]
  simp
/-- one place of a row -/
noncomputable def lnStep (d : Nat → Int) (p : Nat) (x : Int × Int × Int) : Int × Int × Int :=
  if 0 < x.2.1 + d p ∧ fr x.1 p = true then (x.1 + 2 ^ (9 - p), x.2.1 + d p - 1, x.2.2 + (x.2.1 + d p - 1)) else (x.1, x.2.1 + d p, x.2.2 + (x.2.1 + d p))
noncomputable def rn (d : Nat → Int) : Nat → Nat → Int × Int × Int → Int × Int × Int
  | _, 0, x => x
  | p, n + 1, x => rn d (p + 1) n (lnStep d p x)
theorem rn_snoc (d : Nat → Int) : ∀ (n p : Nat) (x : Int × Int × Int), rn d p (n + 1) x = lnStep d (p + n) (rn d p n x)
  | 0, _, _ => rfl
  | n + 1, p, x => by
    show rn d (p + 1) (n + 1) (lnStep d p x) = lnStep d (p + (n + 1)) (rn d (p + 1) n (lnStep d p x))
    rw [rn_snoc d n (p + 1), show p + 1 + n = p + (n + 1) by omega]
theorem rn_congr {d d' : Nat → Int} : ∀ (n p : Nat) (x : Int × Int × Int), (∀ i, p ≤ i → i < p + n → d i = d' i) → rn d p n x = rn d' p n x
  | 0, _, _, _ => rfl
  | n + 1, p, x, h => by
    show rn d (p + 1) n (lnStep d p x) = rn d' (p + 1) n (lnStep d' p x)
    have e : lnStep d p x = lnStep d' p x := by
      unfold lnStep
      rw [h p (Nat.le_refl _) (by omega)]
    rw [e]
    exact rn_congr n (p + 1) _ fun i a b => h i (by omega) (by omega)
theorem rn_ps (d : Nat → Int) : ∀ (n p : Nat) (m w s e : Int), rn d p n (m, w, s + e) = ((rn d p n (m, w, s)).1, (rn d p n (m, w, s)).2.1, (rn d p n (m, w, s)).2.2 + e)
  | 0, _, _, _, _, _ => rfl
  | n + 1, p, m, w, s, e => by
    show rn d (p + 1) n (lnStep d p (m, w, s + e)) = _
    have : lnStep d p (m, w, s + e) = ((lnStep d p (m, w, s)).1, (lnStep d p (m, w, s)).2.1, (lnStep d p (m, w, s)).2.2 + e) := by
      unfold lnStep
      simp only
      split <;> simp <;> omega
    rw [this, rn_ps d n (p + 1)]
    rfl
theorem rn_wait {d : Nat → Int} (hd : ∀ i, 0 ≤ d i) : ∀ (n p : Nat) (m w s : Int), 0 ≤ w → 0 ≤ (rn d p n (m, w, s)).2.1
  | 0, _, _, _, _, h => h
  | n + 1, p, m, w, s, h => by
    show 0 ≤ (rn d (p + 1) n (lnStep d p (m, w, s))).2.1
    have hp := hd p
    unfold lnStep
    simp only
    split
    · exact rn_wait hd n (p + 1) _ _ _ (by omega)
    · exact rn_wait hd n (p + 1) _ _ _ (by omega)
/-- a wish in hand, a free place ahead -/
theorem rn_take {d : Nat → Int} (hd : ∀ i, 0 ≤ d i) {r : Nat} (hr : r ≤ 9) : ∀ (n p : Nat) (m w s : Int), p + n = 10 → 1 ≤ p → p ≤ r → 0 ≤ w → (∀ i, p ≤ i → i < r → fr m i = false) → fr m r = true →
    rn d p n (m, w + 1, s) = rn d p n (m + 2 ^ (9 - r), w, s + ((r : Int) - p))
  | 0, p, _, _, _, h, _, h2, _, _, _ => by omega
  | n + 1, p, m, w, s, h, h1, h2, hw, hno, hyes => by
    show rn d (p + 1) n (lnStep d p (m, w + 1, s)) = rn d (p + 1) n (lnStep d p (m + 2 ^ (9 - r), w, s + ((r : Int) - p)))
    have hp := hd p
    by_cases hpr : p = r
    · subst hpr
      have e1 : lnStep d p (m, w + 1, s) = (m + 2 ^ (9 - p), w + d p, s + (w + d p)) := by
        unfold lnStep
        rw [if_pos ⟨by show 0 < w + 1 + d p; omega, hyes⟩]
        simp only [Prod.mk.injEq, true_and]
        omega
      have e2 : lnStep d p (m + 2 ^ (9 - p), w, s + ((p : Int) - p)) = (m + 2 ^ (9 - p), w + d p, s + (w + d p)) := by
        unfold lnStep
        rw [if_neg (fun q => by have := fr_self h1 hr hyes; rw [this] at q; exact Bool.noConfusion q.2)]
        simp only [Prod.mk.injEq, true_and]
        omega
      rw [e1, e2]
    · have hf := hno p (Nat.le_refl _) (by omega)
      have e1 : lnStep d p (m, w + 1, s) = (m, (w + d p) + 1, s + (w + 1 + d p)) := by
        unfold lnStep
        rw [if_neg (fun q => by rw [hf] at q; exact Bool.noConfusion q.2)]
        simp only [Prod.mk.injEq, true_and, and_true]
        omega
      have e2 : lnStep d p (m + 2 ^ (9 - r), w, s + ((r : Int) - p)) = (m + 2 ^ (9 - r), w + d p, s + (w + 1 + d p) + ((r : Int) - ((p + 1 : Nat) : Int))) := by
        unfold lnStep
        rw [if_neg (fun q => by have := fr_other (by omega) hr h1 (by omega) (Ne.symm hpr) hyes; rw [this, hf] at q; exact Bool.noConfusion q.2)]
        simp only [Prod.mk.injEq, true_and]
        omega
      rw [e1, e2]
      exact rn_take hd hr n (p + 1) m (w + d p) _ (by omega) (by omega) (by omega) (by omega) (fun i a b => hno i (by omega) b) hyes
/-- a wish in hand, no free place ahead -/
theorem rn_pass {d : Nat → Int} : ∀ (n p : Nat) (m w s : Int), p + n = 10 → (∀ i, p ≤ i → i < 10 → fr m i = false) →
    rn d p n (m, w + 1, s) = ((rn d p n (m, w, s)).1, (rn d p n (m, w, s)).2.1 + 1, (rn d p n (m, w, s)).2.2 + n)
  | 0, p, m, w, s, _, _ => by
    show (m, w + 1, s) = (m, w + 1, s + ((0 : Nat) : Int))
    simp
  | n + 1, p, m, w, s, h, hno => by
    show rn d (p + 1) n (lnStep d p (m, w + 1, s)) = _
    have hf := hno p (Nat.le_refl _) (by omega)
    have e1 : lnStep d p (m, w + 1, s) = (m, (w + d p) + 1, s + (w + d p) + 1) := by
      unfold lnStep
      rw [if_neg (fun q => by rw [hf] at q; exact Bool.noConfusion q.2)]
      simp only [Prod.mk.injEq, true_and]
      omega
    have e2 : lnStep d p (m, w, s) = (m, w + d p, s + (w + d p)) := by
      unfold lnStep
      rw [if_neg (fun q => by rw [hf] at q; exact Bool.noConfusion q.2)]
    rw [e1, rn_pass n (p + 1) m (w + d p) _ (by omega) (fun i a b => hno i (by omega) b), rn_ps]
    show _ = ((rn d (p + 1) n (lnStep d p (m, w, s))).1, (rn d (p + 1) n (lnStep d p (m, w, s))).2.1 + 1, (rn d (p + 1) n (lnStep d p (m, w, s))).2.2 + ((n + 1 : Nat) : Int))
    rw [e2]
    simp only [Prod.mk.injEq, true_and]
    omega
/-- one more wish at a place -/
noncomputable def addP (d : Nat → Int) (q : Nat) (c : Int) : Nat → Int := fun p => d p + if p = q then c else 0
theorem addP_ne {d : Nat → Int} {q p : Nat} {c : Int} (h : p ≠ q) : addP d q c p = d p := by unfold addP; rw [if_neg h, Int.add_zero]
theorem addP_self {d : Nat → Int} {q : Nat} {c : Int} : addP d q c q = d q + c := by unfold addP; rw [if_pos rfl]
theorem rn_arrive {d : Nat → Int} {n q : Nat} {m w s : Int} : rn (addP d q 1) q (n + 1) (m, w, s) = rn d q (n + 1) (m, w + 1, s) := by
  show rn (addP d q 1) (q + 1) n (lnStep (addP d q 1) q (m, w, s)) = rn d (q + 1) n (lnStep d q (m, w + 1, s))
  have e : lnStep (addP d q 1) q (m, w, s) = lnStep d q (m, w + 1, s) := by
    unfold lnStep
    simp only [addP_self, show w + (d q + 1) = w + 1 + d q by omega]
  rw [e]
  exact rn_congr n (q + 1) _ fun i a b => addP_ne (by omega)
theorem rn_A {d : Nat → Int} (hd : ∀ i, 0 ≤ d i) {q r : Nat} (hqr : q ≤ r) (hr : r ≤ 9) : ∀ (n p : Nat) (m w s : Int), p + n = 10 → 1 ≤ p → p ≤ q → 0 ≤ w → (∀ i, q ≤ i → i < r → fr m i = false) → fr m r = true →
    rn (addP d q 1) p n (m, w, s) = rn d p n (m + 2 ^ (9 - r), w, s + ((r : Int) - q))
  | 0, p, _, _, _, h, _, h2, _, _, _ => by omega
  | n + 1, p, m, w, s, h, h1, h2, hw, hno, hyes => by
    by_cases hpq : p = q
    · subst hpq
      rw [rn_arrive]
      exact rn_take hd hr (n + 1) p m w s h h1 hqr hw hno hyes
    · show rn (addP d q 1) (p + 1) n (lnStep (addP d q 1) p (m, w, s)) = rn d (p + 1) n (lnStep d p (m + 2 ^ (9 - r), w, s + ((r : Int) - q)))
      have hp := hd p
      have hfr : fr (m + 2 ^ (9 - r)) p = fr m p := fr_other (by omega) hr h1 (by omega) (by omega) hyes
      unfold lnStep
      simp only [addP_ne hpq, hfr]
      by_cases hc : 0 < w + d p ∧ fr m p = true
      · rw [if_pos hc, if_pos hc]
        have ho : ∀ i, p < i → i ≤ 9 → fr (m + 2 ^ (9 - p)) i = fr m i := fun i a b => fr_other h1 (by omega) (by omega) b (by omega) hc.2
        rw [show m + 2 ^ (9 - r) + 2 ^ (9 - p) = m + 2 ^ (9 - p) + 2 ^ (9 - r) by omega, show s + ((r : Int) - q) + (w + d p - 1) = s + (w + d p - 1) + ((r : Int) - q) by omega]
        exact rn_A hd hqr hr n (p + 1) _ _ _ (by omega) (by omega) (by omega) (by omega) (fun i a b => by rw [ho i (by omega) (by omega)]; exact hno i a b) (by rw [ho r (by omega) hr]; exact hyes)
      · rw [if_neg hc, if_neg hc]
        rw [show s + ((r : Int) - q) + (w + d p) = s + (w + d p) + ((r : Int) - q) by omega]
        exact rn_A hd hqr hr n (p + 1) _ _ _ (by omega) (by omega) (by omega) (by omega) hno hyes
theorem rn_C {d : Nat → Int} {q : Nat} (hq : q ≤ 9) : ∀ (n p : Nat) (m w s : Int), p + n = 10 → 1 ≤ p → p ≤ q → (∀ i, q ≤ i → i < 10 → fr m i = false) →
    rn (addP d q 1) p n (m, w, s) = ((rn d p n (m, w, s)).1, (rn d p n (m, w, s)).2.1 + 1, (rn d p n (m, w, s)).2.2 + (10 - (q : Int)))
  | 0, p, _, _, _, h, _, h2, _ => by omega
  | n + 1, p, m, w, s, h, h1, h2, hno => by
    by_cases hpq : p = q
    · subst hpq
      rw [rn_arrive, rn_pass (n + 1) p m w s h hno]
      simp only [Prod.mk.injEq, true_and]
      omega
    · show rn (addP d q 1) (p + 1) n (lnStep (addP d q 1) p (m, w, s)) = ((rn d (p + 1) n (lnStep d p (m, w, s))).1, (rn d (p + 1) n (lnStep d p (m, w, s))).2.1 + 1, (rn d (p + 1) n (lnStep d p (m, w, s))).2.2 + (10 - (q : Int)))
      have e : lnStep (addP d q 1) p (m, w, s) = lnStep d p (m, w, s) := by
        unfold lnStep
        simp only [addP_ne hpq]
      rw [e]
      unfold lnStep
      by_cases hc : 0 < w + d p ∧ fr m p = true
      · simp only [if_pos hc]
        exact rn_C hq n (p + 1) _ _ _ (by omega) (by omega) (by omega) (fun i a b => by rw [fr_other h1 (by omega) (by omega) (by omega) (by omega) hc.2]; exact hno i a b)
      · simp only [if_neg hc]
        exact rn_C hq n (p + 1) _ _ _ (by omega) (by omega) (by omega) hno
/-- the first free place -/
noncomputable def pl (n : Int) : Nat → Nat → Nat
  | 0, _ => 10
  | f + 1, q => if fr n q = true then q else pl n f (q + 1)
theorem pl_spec (n : Int) : ∀ (f q : Nat), f + q = 10 → q ≤ pl n f q ∧ pl n f q ≤ 10 ∧ (∀ p, q ≤ p → p < pl n f q → fr n p = false) ∧ (pl n f q < 10 → fr n (pl n f q) = true)
  | 0, q, h => ⟨by show q ≤ 10; omega, by show 10 ≤ 10; omega, fun p a b => by have : p < 10 := b; omega, fun h => by have : (10 : Nat) < 10 := h; omega⟩
  | f + 1, q, h => by
    unfold pl
    by_cases hq : fr n q = true
    · rw [if_pos hq]
      exact ⟨Nat.le_refl _, by omega, fun p a b => by omega, fun _ => hq⟩
    · rw [if_neg hq]
      obtain ⟨a, b, c, e⟩ := pl_spec n f (q + 1) (by omega)
      refine ⟨by omega, b, fun p a' b' => ?_, e⟩
      by_cases hp : p = q
      · subst hp; simpa using hq
      · exact c p (by omega) b'
theorem free_pl (ms : List Int) {k q : Nat} (hk : k < 6) (hm : 0 ≤ ms.getD k 0) (h1 : 1 ≤ q) (h9 : q ≤ 9) : freeR (lstS ms) (offS k) (q : Int) = (pl (ms.getD k 0) (10 - q) q : Int) := by
  obtain ⟨_, _, r, hr, a, b, c, e⟩ := free_spec ms hk hm h1 h9
  obtain ⟨a', b', c', e'⟩ := pl_spec (ms.getD k 0) (10 - q) q (by omega)
  rw [hr]
  have : r = pl (ms.getD k 0) (10 - q) q := by
    rcases Nat.lt_trichotomy r (pl (ms.getD k 0) (10 - q) q) with h | h | h
    · have h1 := c' r a h
      have h2 := e (by omega)
      rw [h1] at h2; cases h2
    · exact h
    · have h1 := c _ a' h
      have h2 := e' (by omega)
      rw [h1] at h2; cases h2
  rw [this]
end Mine
end
section
open PySem PySem.W PyProof.Rows
namespace Mine
/-- what all rows are asked for -/
noncomputable abbrev Dem := Nat → Nat → Int
noncomputable def addD (D : Dem) (k q : Nat) (c : Int) : Dem := fun i p => D i p + if i = k ∧ p = q then c else 0
theorem addD_row (D : Dem) (k q : Nat) (c : Int) : addD D k q c k = addP (D k) q c := by
  funext p
  unfold addD addP
  by_cases h : p = q <;> simp [h]
theorem addD_off {D : Dem} {k q i : Nat} {c : Int} (h : i ≠ k) : addD D k q c i = D i := by
  funext p
  unfold addD
  simp [h]
noncomputable abbrev TS := List Int × Dem × Int × Int
/-- the row n is told -/
noncomputable def tStep (n : Nat) (x : TS) : TS :=
  let y := rn (x.2.1 n) 1 9 (x.1.getD n 0, 0, x.2.2.2)
  (x.1.set n y.1, if n = 0 then x.2.1 else addD x.2.1 (parS n) 1 y.2.1, if n = 0 then x.2.2.1 + y.2.1 else x.2.2.1, y.2.2)
noncomputable def tAll : Nat → TS → TS
  | 0, x => x
  | n + 1, x => tAll n (tStep n x)
/-- the ends of a telling: the modes, the wishes that went out, the places passed by -/
noncomputable def tRes (n : Nat) (ms : List Int) (D : Dem) (ou ps : Int) : List Int × Int × Int := ((tAll n (ms, D, ou, ps)).1, (tAll n (ms, D, ou, ps)).2.2)
theorem parS_lt : ∀ {k : Nat}, 0 < k → parS k < k
  | 0, h => absurd h (by decide)
  | 1, _ => by decide
  | 2, _ => by decide
  | 3, _ => by decide
  | 4, _ => by decide
  | 5, _ => by decide
  | k + 6, _ => by show 0 < k + 6; omega
theorem depS_par : ∀ {k : Nat}, 0 < k → k < 6 → depS (parS k) + 1 = depS k
  | 0, h, _ => absurd h (by decide)
  | 1, _, _ => by decide
  | 2, _, _ => by decide
  | 3, _, _ => by decide
  | 4, _, _ => by decide
  | 5, _, _ => by decide
  | k + 6, _, h => by omega
theorem tAll_congr : ∀ (n : Nat) (ms : List Int) (D D' : Dem) (ou ps : Int), n ≤ 6 → (∀ i, i < n → D i = D' i) → tRes n ms D ou ps = tRes n ms D' ou ps
  | 0, _, _, _, _, _, _, _ => rfl
  | n + 1, ms, D, D', ou, ps, h6, h => by
    show tRes n _ _ _ _ = tRes n _ _ _ _
    simp only [h n (Nat.lt_succ_self n)]
    refine tAll_congr n _ _ _ _ _ (by omega) fun i hi => ?_
    by_cases hn : n = 0
    · omega
    · rw [if_neg hn, if_neg hn]
      by_cases hp : i = parS n
      · subst hp; rw [addD_row, addD_row, h _ (by omega)]
      · rw [addD_off hp, addD_off hp, h i (by omega)]
theorem tRes_step (n : Nat) (ms : List Int) (D : Dem) (ou ps : Int) : tRes (n + 1) ms D ou ps =
    tRes n (ms.set n (rn (D n) 1 9 (ms.getD n 0, 0, ps)).1) (if n = 0 then D else addD D (parS n) 1 (rn (D n) 1 9 (ms.getD n 0, 0, ps)).2.1) (if n = 0 then ou + (rn (D n) 1 9 (ms.getD n 0, 0, ps)).2.1 else ou) (rn (D n) 1 9 (ms.getD n 0, 0, ps)).2.2 := id rfl
/-- the climb, by the modes alone -/
noncomputable def climbP : Nat → List Int → Nat → Nat → Int → Int → List Int × Int × Int
  | 0, now, _, _, ou, ps => (now, ou, ps)
  | f + 1, now, kk, q, ou, ps =>
    if pl (now.getD kk 0) (10 - q) q < 10 then (now.set kk (now.getD kk 0 + 2 ^ (9 - pl (now.getD kk 0) (10 - q) q)), ou, ps + ((pl (now.getD kk 0) (10 - q) q : Int) - q))
    else if kk = 0 then (now, ou + 1, ps + (10 - (q : Int))) else climbP f now (parS kk) 1 ou (ps + (10 - (q : Int)))
theorem getD_set_ne {ms : List Int} {i j : Nat} {v : Int} (h : i ≠ j) : (ms.set i v).getD j 0 = ms.getD j 0 := by
  rw [List.getD_eq_getElem?_getD, List.getD_eq_getElem?_getD, List.getElem?_set_ne h]
theorem getD_set_self {ms : List Int} {i : Nat} {v : Int} (h : i < ms.length) : (ms.set i v).getD i 0 = v := by
  rw [List.getD_eq_getElem?_getD, List.getElem?_set_self h]; rfl
theorem climbP_out (e1 e2 : Int) : ∀ (f : Nat) (now : List Int) (kk q : Nat) (ou ps : Int), climbP f now kk q (ou + e1) (ps + e2) = ((climbP f now kk q ou ps).1, (climbP f now kk q ou ps).2.1 + e1, (climbP f now kk q ou ps).2.2 + e2)
  | 0, _, _, _, _, _ => rfl
  | f + 1, now, kk, q, ou, ps => by
    unfold climbP
    split
    · simp only [Prod.mk.injEq, true_and]; omega
    · split
      · simp only [Prod.mk.injEq, true_and]; omega
      · rw [show ps + e2 + (10 - (q : Int)) = ps + (10 - (q : Int)) + e2 by omega]
        exact climbP_out e1 e2 f now _ _ _ _
theorem climbP_hi {n : Nat} {v : Int} : ∀ (f : Nat) (now : List Int) (kk q : Nat) (ou ps : Int), kk < n → climbP f (now.set n v) kk q ou ps = (((climbP f now kk q ou ps).1.set n v), (climbP f now kk q ou ps).2)
  | 0, _, _, _, _, _, _ => rfl
  | f + 1, now, kk, q, ou, ps, h => by
    unfold climbP
    rw [getD_set_ne (by omega : n ≠ kk)]
    split
    · rw [List.set_comm _ _ (by omega : n ≠ kk)]
    · split
      · rfl
      · rename_i hk
        have := parS_lt (k := kk) (by omega)
        exact climbP_hi f now _ _ _ _ (by omega)
theorem climbP_keep {n : Nat} : ∀ (f : Nat) (now : List Int) (kk q : Nat) (ou ps : Int), kk < n → (climbP f now kk q ou ps).1.getD n 0 = now.getD n 0
  | 0, _, _, _, _, _, _ => rfl
  | f + 1, now, kk, q, ou, ps, h => by
    unfold climbP
    split
    · exact getD_set_ne (by omega)
    · split
      · rfl
      · rename_i hk
        have := parS_lt (k := kk) (by omega)
        exact climbP_keep f now _ _ _ _ (by omega)
theorem addD_comm (D : Dem) (k q k' q' : Nat) (c c' : Int) : addD (addD D k q c) k' q' c' = addD (addD D k' q' c') k q c := by
  funext i p
  unfold addD
  omega
theorem addD_two (D : Dem) (k q : Nat) (c c' : Int) : addD (addD D k q c) k q c' = addD D k q (c + c') := by
  funext i p
  unfold addD
  split <;> omega
theorem addD_nonneg {D : Dem} (hD : ∀ i p, 0 ≤ D i p) (k q : Nat) {c : Int} (hc : 0 ≤ c) : ∀ i p, 0 ≤ addD D k q c i p := by
  intro i p
  have := hD i p
  unfold addD
  split <;> omega
/-- a wish more is a wish served first -/
theorem pend : ∀ (n : Nat) (ms : List Int) (D : Dem) (ou ps : Int) (kk q f : Nat), n ≤ 6 → ms.length = 6 → (∀ i p, 0 ≤ D i p) → kk < n → 1 ≤ q → q ≤ 9 → depS kk < f →
    tRes n ms (addD D kk q 1) ou ps = tRes n (climbP f ms kk q ou ps).1 D (climbP f ms kk q ou ps).2.1 (climbP f ms kk q ou ps).2.2
  | 0, _, _, _, _, _, _, _, _, _, _, h, _, _, _ => absurd h (Nat.not_lt_zero _)
  | n + 1, ms, D, ou, ps, kk, q, f, h6, hl, hD, hk, hq1, hq9, hf => by
    rw [tRes_step, tRes_step]
    by_cases hkn : kk = n
    · subst hkn
      have e0 : addD D kk q 1 kk = addP (D kk) q 1 := addD_row D kk q 1
      rw [e0]
      obtain ⟨f', rfl⟩ : ∃ f', f = f' + 1 := ⟨f - 1, by omega⟩
      obtain ⟨a, b, c, e⟩ := pl_spec (ms.getD kk 0) (10 - q) q (by omega)
      unfold climbP
      by_cases hr : pl (ms.getD kk 0) (10 - q) q < 10
      · simp only [if_pos hr]
        rw [getD_set_self (by omega : kk < ms.length)]
        rw [rn_A (hD kk) a (by omega) 9 1 _ _ _ rfl (by decide) hq1 (Int.le_refl 0) c (e hr)]
        rw [List.set_set]
        refine tAll_congr kk _ _ _ _ _ (by omega) fun i hi => ?_
        by_cases hz : kk = 0
        · omega
        · rw [if_neg hz, if_neg hz]
          by_cases hp : i = parS kk
          · subst hp; rw [addD_row, addD_row, addD_off (by omega)]
          · rw [addD_off hp, addD_off hp, addD_off (by omega)]
      · have hr' : pl (ms.getD kk 0) (10 - q) q = 10 := by omega
        simp only [if_neg hr]
        rw [rn_C hq9 9 1 _ _ _ rfl (by decide) hq1 (fun i a' b' => c i a' (by omega))]
        by_cases hz : kk = 0
        · subst hz
          simp only [if_pos]
          rw [rn_ps]
          show tRes 0 _ _ _ _ = tRes 0 _ _ _ _
          unfold tRes tAll
          simp only [Prod.mk.injEq, true_and, and_true]
          omega
        · simp only [if_neg hz]
          have hp := parS_lt (k := kk) (by omega)
          have hdp := depS_par (k := kk) (by omega) (by omega)
          have hkeep : (climbP f' ms (parS kk) 1 ou (ps + (10 - (q : Int)))).1.getD kk 0 = ms.getD kk 0 := climbP_keep f' ms (parS kk) 1 ou _ hp
          rw [hkeep]
          have hw := rn_wait (hD kk) 9 1 (ms.getD kk 0) 0 ps (Int.le_refl 0)
          generalize hy : rn (D kk) 1 9 (ms.getD kk 0, 0, ps) = y at hw ⊢
          have e1 : rn (D kk) 1 9 (ms.getD kk 0, 0, (climbP f' ms (parS kk) 1 ou (ps + (10 - (q : Int)))).2.2) = (y.1, y.2.1, y.2.2 + ((climbP f' ms (parS kk) 1 ou (ps + (10 - (q : Int)))).2.2 - ps)) := by
            have := rn_ps (D kk) 9 1 (ms.getD kk 0) 0 ps ((climbP f' ms (parS kk) 1 ou (ps + (10 - (q : Int)))).2.2 - ps)
            rw [hy] at this
            rw [← this]
            congr 3
            omega
          rw [e1]
          have e2 : tRes kk (ms.set kk y.1) (addD (addD D kk q 1) (parS kk) 1 (y.2.1 + 1)) ou (y.2.2 + (10 - (q : Int))) = tRes kk (ms.set kk y.1) (addD (addD D (parS kk) 1 y.2.1) (parS kk) 1 1) ou (y.2.2 + (10 - (q : Int))) := by
            refine tAll_congr kk _ _ _ _ _ (by omega) fun i hi => ?_
            rw [addD_two]
            by_cases hpi : i = parS kk
            · subst hpi; rw [addD_row, addD_row, addD_off (by omega)]
            · rw [addD_off hpi, addD_off hpi, addD_off (by omega)]
          rw [e2, pend kk (ms.set kk y.1) (addD D (parS kk) 1 y.2.1) ou (y.2.2 + (10 - (q : Int))) (parS kk) 1 f' (by omega) (by rw [List.length_set]; exact hl) (addD_nonneg hD _ _ hw) hp (by decide) (by decide) (by omega)]
          rw [climbP_hi f' ms (parS kk) 1 ou _ hp]
          have e3 := climbP_out 0 (y.2.2 - ps) f' ms (parS kk) 1 ou (ps + (10 - (q : Int)))
          rw [Int.add_zero, show ps + (10 - (q : Int)) + (y.2.2 - ps) = y.2.2 + (10 - (q : Int)) by omega] at e3
          rw [e3]
          simp only [Int.add_zero]
          congr 1
          omega
    · have hkn' : kk < n := by omega
      have e0 : addD D kk q 1 n = D n := addD_off (Ne.symm hkn)
      have hz : n ≠ 0 := by omega
      rw [e0, climbP_keep f ms kk q ou ps hkn']
      simp only [if_neg hz]
      have hw := rn_wait (hD n) 9 1 (ms.getD n 0) 0 ps (Int.le_refl 0)
      generalize hy : rn (D n) 1 9 (ms.getD n 0, 0, ps) = y at hw ⊢
      have e1 : rn (D n) 1 9 (ms.getD n 0, 0, (climbP f ms kk q ou ps).2.2) = (y.1, y.2.1, y.2.2 + ((climbP f ms kk q ou ps).2.2 - ps)) := by
        have := rn_ps (D n) 9 1 (ms.getD n 0) 0 ps ((climbP f ms kk q ou ps).2.2 - ps)
        rw [hy] at this
        rw [← this]
        congr 3
        omega
      rw [e1, addD_comm, pend n (ms.set n y.1) (addD D (parS n) 1 y.2.1) ou y.2.2 kk q f (by omega) (by rw [List.length_set]; exact hl) (addD_nonneg hD _ _ hw) hkn' hq1 hq9 hf, climbP_hi f ms kk q ou _ hkn']
      have e3 := climbP_out 0 (y.2.2 - ps) f ms kk q ou ps
      rw [Int.add_zero, show ps + (y.2.2 - ps) = y.2.2 by omega] at e3
      rw [e3]
      simp only [Int.add_zero]
      congr 1
      omega
theorem rn_zero {d : Nat → Int} (hd : ∀ i, d i = 0) : ∀ (n p : Nat) (m s : Int), rn d p n (m, 0, s) = (m, 0, s)
  | 0, _, _, _ => rfl
  | n + 1, p, m, s => by
    show rn d (p + 1) n (lnStep d p (m, 0, s)) = _
    have e : lnStep d p (m, 0, s) = (m, 0, s) := by
      unfold lnStep
      simp only [hd p]
      rw [if_neg (fun q => by have := q.1; omega)]
      simp
    rw [e]
    exact rn_zero hd n (p + 1) m s
theorem set_same {ms : List Int} {n : Nat} : ms.set n (ms.getD n 0) = ms := by
  rcases Nat.lt_or_ge n ms.length with h | h
  · rw [List.getD_eq_getElem?_getD, List.getElem?_eq_getElem h]
    exact List.set_getElem_self h
  · exact List.set_eq_of_length_le h
theorem tRes_zero {D : Dem} (hD : ∀ i p, D i p = 0) : ∀ (n : Nat) (ms : List Int) (ou ps : Int), n ≤ 6 → tRes n ms D ou ps = (ms, ou, ps)
  | 0, _, _, _, _ => rfl
  | n + 1, ms, ou, ps, h => by
    rw [tRes_step, rn_zero (hD n), set_same]
    have e : (if n = 0 then D else addD D (parS n) 1 0) = D := by
      split
      · rfl
      · funext i p
        unfold addD
        simp
    simp only [Int.add_zero, ite_self]
    rw [e]
    exact tRes_zero hD n ms ou ps (by omega)
/-- what a list of wishes asks -/
noncomputable def demD (ws : List Int) : Dem := fun k p => if 1 ≤ p ∧ p ≤ 9 then (ws.count (9 * (k : Int) + p - 1) : Nat) else 0
theorem demD_cons {w : Int} {ws : List Int} (h0 : 0 ≤ w) {k q : Nat} (hk : (k : Int) = w / 9) (hq : (q : Int) = 1 + w % 9) : demD (w :: ws) = addD (demD ws) k q 1 := by
  funext i p
  show (if 1 ≤ p ∧ p ≤ 9 then ((w :: ws).count (9 * (i : Int) + p - 1) : Int) else 0) = (if 1 ≤ p ∧ p ≤ 9 then (ws.count (9 * (i : Int) + p - 1) : Int) else 0) + if i = k ∧ p = q then 1 else 0
  rw [List.count_cons]
  by_cases hp : 1 ≤ p ∧ p ≤ 9
  · rw [if_pos hp, if_pos hp]
    by_cases hi : i = k ∧ p = q
    · have : (w == 9 * (i : Int) + p - 1) = true := by simp; omega
      rw [this, if_pos rfl, if_pos hi]
      simp
    · have : (w == 9 * (i : Int) + p - 1) = false := by simp; omega
      rw [this, if_neg (by decide), if_neg hi]
      simp
  · rw [if_neg hp, if_neg hp, if_neg (by omega)]
    rfl
theorem demD_nonneg (ws : List Int) : ∀ i p, 0 ≤ demD ws i p := fun i p => by
  unfold demD
  split <;> omega
theorem climbP_len : ∀ (f : Nat) (now : List Int) (kk q : Nat) (ou ps : Int), (climbP f now kk q ou ps).1.length = now.length
  | 0, _, _, _, _, _ => rfl
  | f + 1, now, kk, q, ou, ps => by
    unfold climbP
    split
    · exact List.length_set
    · split
      · rfl
      · exact climbP_len f now _ _ _ _
/-- the wishes served one by one -/
noncomputable def srvP : List Int → List Int → Int → Int → List Int × Int × Int
  | [], now, ou, ps => (now, ou, ps)
  | w :: r, now, ou, ps => srvP r (climbP 3 now (w / 9).toNat (1 + w % 9).toNat ou ps).1 (climbP 3 now (w / 9).toNat (1 + w % 9).toNat ou ps).2.1 (climbP 3 now (w / 9).toNat (1 + w % 9).toNat ou ps).2.2
theorem srv_told : ∀ (ws ms : List Int) (ou ps : Int), ms.length = 6 → (∀ x ∈ ws, 0 ≤ x ∧ x < 54) → srvP ws ms ou ps = tRes 6 ms (demD ws) ou ps
  | [], ms, ou, ps, _, _ => (tRes_zero (fun i p => by unfold demD; simp) 6 ms ou ps (by decide)).symm
  | w :: r, ms, ou, ps, hl, hw => by
    have hb := hw w (.head _)
    rw [demD_cons hb.1 (k := (w / 9).toNat) (q := (1 + w % 9).toNat) (by omega) (by omega)]
    rw [pend 6 ms (demD r) ou ps (w / 9).toNat (1 + w % 9).toNat 3 (by decide) hl (demD_nonneg r) (by omega) (by omega) (by omega) (depS_lt _)]
    exact srv_told r _ _ _ (by rw [climbP_len]; exact hl) fun x hx => hw x (.tail _ hx)
theorem demD_rev (ws : List Int) : demD ws.reverse = demD ws := by
  funext i p
  unfold demD
  rw [List.count_reverse]
end Mine
end
section
open PySem PySem.W PyProof.Rows
namespace Mine
theorem conv_d (n : Int) {P : Int} (hP : 0 < P) : n.fdiv P = n / P := Int.fdiv_eq_ediv_of_nonneg _ (by omega)
theorem conv_m (n : Int) {P : Int} (hP : 0 < P) : n.fmod P = n % P := Int.fmod_eq_emod_of_nonneg _ (by omega)
/-- the two ways to show the signs -/
theorem sgRow_bits {n d b : Int} {S sg : Str} {i1 i2 i3 i4 : Nat} {cs cx cS : Str} (h1 : (3 < (n.fdiv d).fmod 8) ↔ bt n i1 = true) (h2 : ((((n.fdiv d).fmod 8).fdiv 2).fmod 2 = 1) ↔ bt n i2 = true) (h3 : ((n.fdiv d).fmod 8).fmod 2 = if bt n i3 = true then 1 else 0) (h4 : ((n.fdiv b).fmod 2 = 1) ↔ bt n i4 = true)
    (k1 : Txt.item S 1 = cs) (k2 : Txt.item (Str.ofString "-x") 1 = cx) (k3 : Txt.item S 0 = cS) :
    sgRow n d b S sg = sg ++ (if bt n i1 = true then Str.ofString "r" else Str.ofString "-") ++ (if bt n i2 = true then Str.ofString "w" else Str.ofString "-") ++ (if bt n i3 = true then (if bt n i4 = true then cs else cx) else (if bt n i4 = true then cS else Str.ofString "-")) := by
  unfold sgRow
  have e1 : decide (3 < (n.fdiv d).fmod 8) = bt n i1 := by rw [Bool.eq_iff_iff, decide_eq_true_eq]; exact h1
  have e2 : ((((n.fdiv d).fmod 8).fdiv 2).fmod 2 == 1) = bt n i2 := by rw [Bool.eq_iff_iff, beq_iff_eq]; exact h2
  rw [e1, e2, h3]
  congr 1
  have k4 : Txt.item (Str.ofString "-x") 0 = Str.ofString "-" := by decide
  by_cases hb : bt n i4 = true
  · rw [if_pos (h4.mpr hb)]
    by_cases h : bt n i3 = true
    · rw [if_pos h, if_pos h, if_pos hb, k1]
    · rw [if_neg h, if_neg h, if_pos hb, k3]
  · rw [if_neg (fun q => hb (h4.mp q))]
    by_cases h : bt n i3 = true
    · rw [if_pos h, if_pos h, if_neg hb, k2]
    · rw [if_neg h, if_neg h, if_neg hb, k4]
theorem bt_iff (n : Int) (i : Nat) : bt n i = true ↔ n / 2 ^ i % 2 = 1 := by unfold bt; exact decide_eq_true_iff
theorem sg_fm {n : Int} (h : 0 ≤ n) (h1 : n < 65536) : sgP3 n = fmS n := by
  have r64 : ∀ sg, sgRow n 64 2048 (Str.ofString "Ss") sg = _ := fun sg => sgRow_bits (i1 := 8) (i2 := 7) (i3 := 6) (i4 := 11) (cs := Str.ofString "s") (cx := Str.ofString "x") (cS := Str.ofString "S")
    (by rw [bt_iff, conv_d n (by decide), conv_m _ (by decide)]; simp only [Int.reducePow]; omega) (by rw [bt_iff, conv_d n (by decide), conv_m _ (by decide), conv_d _ (by decide), conv_m _ (by decide)]; simp only [Int.reducePow]; omega)
    (by simp only [bt_iff, conv_d n (show (0 : Int) < 64 by decide), conv_m _ (show (0 : Int) < 8 by decide), conv_m _ (show (0 : Int) < 2 by decide), Int.reducePow]; split <;> omega) (by rw [bt_iff, conv_d n (by decide), conv_m _ (by decide)]; simp only [Int.reducePow]) (by decide) (by decide) (by decide)
  have r8 : ∀ sg, sgRow n 8 1024 (Str.ofString "Ss") sg = _ := fun sg => sgRow_bits (i1 := 5) (i2 := 4) (i3 := 3) (i4 := 10) (cs := Str.ofString "s") (cx := Str.ofString "x") (cS := Str.ofString "S")
    (by rw [bt_iff, conv_d n (by decide), conv_m _ (by decide)]; simp only [Int.reducePow]; omega) (by rw [bt_iff, conv_d n (by decide), conv_m _ (by decide), conv_d _ (by decide), conv_m _ (by decide)]; simp only [Int.reducePow]; omega)
    (by simp only [bt_iff, conv_d n (show (0 : Int) < 8 by decide), conv_m _ (show (0 : Int) < 8 by decide), conv_m _ (show (0 : Int) < 2 by decide), Int.reducePow]; split <;> omega) (by rw [bt_iff, conv_d n (by decide), conv_m _ (by decide)]; simp only [Int.reducePow]) (by decide) (by decide) (by decide)
  have r1 : ∀ sg, sgRow n 1 512 (Str.ofString "Tt") sg = _ := fun sg => sgRow_bits (i1 := 2) (i2 := 1) (i3 := 0) (i4 := 9) (cs := Str.ofString "t") (cx := Str.ofString "x") (cS := Str.ofString "T")
    (by rw [bt_iff, conv_d n (by decide), conv_m _ (by decide)]; simp only [Int.reducePow]; omega) (by rw [bt_iff, conv_d n (by decide), conv_m _ (by decide), conv_d _ (by decide), conv_m _ (by decide)]; simp only [Int.reducePow]; omega)
    (by simp only [bt_iff, conv_d n (show (0 : Int) < 1 by decide), conv_m _ (show (0 : Int) < 8 by decide), conv_m _ (show (0 : Int) < 2 by decide), Int.reducePow]; split <;> omega) (by rw [bt_iff, conv_d n (by decide), conv_m _ (by decide)]; simp only [Int.reducePow]) (by decide) (by decide) (by decide)
  unfold sgP3 sgP2 sgP1
  rw [r1, r8, r64]
  apply cl_inj
  unfold fmS
  rw [cl_join]
  have e : fmL n = [rowC n 0 (rowsT.getD 0 []), rowC n 1 [((256 : Int), Str.ofString "r")], rowC n 2 [((128 : Int), Str.ofString "w")], rowC n 3 [((2112 : Int), Str.ofString "s"), (2048, Str.ofString "S"), (64, Str.ofString "x")],
      rowC n 4 [((32 : Int), Str.ofString "r")], rowC n 5 [((16 : Int), Str.ofString "w")], rowC n 6 [((1032 : Int), Str.ofString "s"), (1024, Str.ofString "S"), (8, Str.ofString "x")],
      rowC n 7 [((4 : Int), Str.ofString "r")], rowC n 8 [((2 : Int), Str.ofString "w")], rowC n 9 [((513 : Int), Str.ofString "t"), (512, Str.ofString "T"), (1, Str.ofString "x")]] := id rfl
  rw [e, row0 h h1, row1 n 1 8 _ _ (by decide) (by decide), row1 n 2 7 _ _ (by decide) (by decide), row3 h 3 6 11 _ _ _ _ _ _ (by decide) (by decide) (by decide) (by decide) (by decide),
    row1 n 4 5 _ _ (by decide) (by decide), row1 n 5 4 _ _ (by decide) (by decide), row3 h 6 3 10 _ _ _ _ _ _ (by decide) (by decide) (by decide) (by decide) (by decide),
    row1 n 7 2 _ _ (by decide) (by decide), row1 n 8 1 _ _ (by decide) (by decide), row3 h 9 0 9 _ _ _ _ _ _ (by decide) (by decide) (by decide) (by decide) (by decide)]
  unfold sgP0
  rw [conv_d n (show (0 : Int) < 4096 by decide)]
  simp only [List.flatMap_cons, List.flatMap_nil, cl_app, List.append_assoc, List.append_nil]
theorem rn_range {d : Nat → Int} : ∀ (n p : Nat) (m w s : Int), 1 ≤ p → p + n ≤ 10 → 0 ≤ m → m < 65536 → 0 ≤ (rn d p n (m, w, s)).1 ∧ (rn d p n (m, w, s)).1 < 65536
  | 0, _, _, _, _, _, _, h0, h1 => ⟨h0, h1⟩
  | n + 1, p, m, w, s, hp, hn, h0, h1 => by
    show 0 ≤ (rn d (p + 1) n (lnStep d p (m, w, s))).1 ∧ (rn d (p + 1) n (lnStep d p (m, w, s))).1 < 65536
    unfold lnStep
    simp only
    split
    · rename_i hc
      have hr := fr_range h0 h1 hp (by omega : p < 10) hc.2
      exact rn_range n (p + 1) _ _ _ (by omega) (by omega) hr.1 hr.2
    · exact rn_range n (p + 1) _ _ _ (by omega) (by omega) h0 h1
theorem modes_at {ms : List Int} (h : Modes ms) {k : Nat} (hk : k < 6) : 0 ≤ ms.getD k 0 ∧ ms.getD k 0 < 65536 := by
  have hl : k < ms.length := by rw [h.1]; exact hk
  rw [List.getD_eq_getElem?_getD, List.getElem?_eq_getElem hl]
  exact h.2 _ (List.getElem_mem hl)
theorem modes_set {ms : List Int} (h : Modes ms) (k : Nat) {v : Int} (h0 : 0 ≤ v) (h1 : v < 65536) : Modes (ms.set k v) :=
  ⟨by rw [List.length_set]; exact h.1, fun x hx => (List.mem_or_eq_of_mem_set hx).elim (h.2 x) fun e => by rw [e]; exact ⟨h0, h1⟩⟩
theorem climbP_modes : ∀ (f : Nat) {now : List Int} {kk q : Nat} (ou ps : Int), Modes now → kk < 6 → 1 ≤ q → q ≤ 9 → Modes (climbP f now kk q ou ps).1
  | 0, _, _, _, _, _, h, _, _, _ => h
  | f + 1, now, kk, q, ou, ps, h, hk, h1, h9 => by
    unfold climbP
    obtain ⟨a, b, c, e⟩ := pl_spec (now.getD kk 0) (10 - q) q (by omega)
    split
    · rename_i hr
      have hm := modes_at h hk
      have := fr_range hm.1 hm.2 (r := pl (now.getD kk 0) (10 - q) q) (by omega) hr (e hr)
      exact modes_set h kk this.1 this.2
    · split
      · exact h
      · have := parS_lt (k := kk) (by omega)
        exact climbP_modes f _ _ h (by omega) (by decide) (by decide)
theorem climb_eq : ∀ (f : Nat) {now : List Int} {kk q : Nat} (ou ps : Int), Modes now → kk < 6 → 1 ≤ q → q ≤ 9 → climbF f now kk (q : Int) ou ps = climbP f now kk q ou ps
  | 0, _, _, _, _, _, _, _, _, _ => rfl
  | f + 1, now, kk, q, ou, ps, h, hk, h1, h9 => by
    have hm := modes_at h hk
    have hf := free_pl now hk hm.1 h1 h9
    obtain ⟨a, b, c, e⟩ := pl_spec (now.getD kk 0) (10 - q) q (by omega)
    unfold climbF climbP
    rw [hf]
    by_cases hr : pl (now.getD kk 0) (10 - q) q < 10
    · rw [if_pos hr, if_pos (by omega)]
      rw [show ((9 : Int) - (pl (now.getD kk 0) (10 - q) q : Int)).toNat = 9 - pl (now.getD kk 0) (10 - q) q by omega]
    · rw [if_neg hr, if_neg (by omega), show pl (now.getD kk 0) (10 - q) q = 10 by omega]
      by_cases hz : kk = 0
      · rw [if_pos hz, if_pos hz]; rfl
      · rw [if_neg hz, if_neg hz]
        have hp := parS_lt (k := kk) (by omega)
        exact climb_eq f (q := 1) ou _ h (by omega) (by decide) (by decide)
theorem srvP_modes : ∀ (ws : List Int) {now : List Int} (ou ps : Int), Modes now → (∀ x ∈ ws, 0 ≤ x ∧ x < 54) → Modes (srvP ws now ou ps).1
  | [], _, _, _, h, _ => h
  | w :: r, now, ou, ps, h, hw => by
    have hb := hw w (.head _)
    exact srvP_modes r _ _ (climbP_modes 3 _ _ h (by omega) (by omega) (by omega)) fun x hx => hw x (.tail _ hx)
theorem srvP_snoc : ∀ (ws : List Int) (w : Int) (now : List Int) (ou ps : Int), srvP (ws ++ [w]) now ou ps = climbP 3 (srvP ws now ou ps).1 (w / 9).toNat (1 + w % 9).toNat (srvP ws now ou ps).2.1 (srvP ws now ou ps).2.2
  | [], _, _, _, _ => rfl
  | _ :: r, w, _, _, _ => srvP_snoc r w _ _ _
theorem served_srv {ms ws : List Int} (hM : Modes ms) (hw : ∀ x ∈ ws, 0 ≤ x ∧ x < 54) : ∀ i, i ≤ ws.length → servedSt ms ws i = srvP (ws.take i) ms 0 0
  | 0, _ => rfl
  | i + 1, hi => by
    have hlt : i < ws.length := by omega
    have hb := hw _ (List.getElem_mem hlt)
    have e : ws.getD i 0 = ws[i] := by rw [List.getD_eq_getElem?_getD, List.getElem?_eq_getElem hlt]; rfl
    show climbF 3 (servedSt ms ws i).1 ((ws.getD i 0).fdiv 9).toNat (1 + (ws.getD i 0).fmod 9) (servedSt ms ws i).2.1 (servedSt ms ws i).2.2 = _
    rw [served_srv hM hw i (by omega), e, conv_d _ (by decide), conv_m _ (by decide), List.take_succ_eq_append_getElem hlt, srvP_snoc]
    have hm := srvP_modes (ws.take i) 0 0 hM fun x hx => hw x (List.mem_of_mem_take hx)
    have := climb_eq 3 (kk := (ws[i] / 9).toNat) (q := (1 + ws[i] % 9).toNat) (srvP (ws.take i) ms 0 0).2.1 (srvP (ws.take i) ms 0 0).2.2 hm (by omega) (by omega) (by omega)
    rw [show (((1 + ws[i] % 9).toNat : Nat) : Int) = 1 + ws[i] % 9 by omega] at this
    exact this
theorem served_told {ms ws : List Int} (hM : Modes ms) (hw : ∀ x ∈ ws, 0 ≤ x ∧ x < 54) : servedSt ms ws ws.length = tRes 6 ms (demD ws) 0 0 := by
  rw [served_srv hM hw _ (Nat.le_refl _), List.take_length]
  exact srv_told ws ms 0 0 hM.1 hw
/-- the model's telling of a row, place by place -/
theorem free_cond {m : Int} {j : Nat} (hj : j < 9) : (¬ ((1 + (j : Int) * 1).fmod 3 = 0 ∧ (m.fdiv (2 ^ (12 - (1 + (j : Int) * 1).fdiv 3).toNat)).fmod 2 = 1) ∧ (m.fdiv (2 ^ (9 - (1 + (j : Int) * 1)).toNat)).fmod 2 = 0) ↔ fr m (j + 1) = true := by
  have e1 : (12 - (1 + (j : Int) * 1).fdiv 3).toNat = 12 - (j + 1) / 3 := by
    rw [Int.fdiv_eq_ediv_of_nonneg _ (by decide)]
    omega
  have e2 : (9 - (1 + (j : Int) * 1)).toNat = 9 - (j + 1) := by omega
  have e3 : (1 + (j : Int) * 1).fmod 3 = 0 ↔ (j + 1) % 3 = 0 := by
    rw [Int.fmod_eq_emod_of_nonneg _ (by decide)]
    omega
  have cv : ∀ (k : Nat), (m.fdiv (2 ^ k)).fmod 2 = m / 2 ^ k % 2 := fun k => by
    rw [conv_d _ (Int.pow_pos (by decide)), conv_m _ (by decide)]
  have b0 : ∀ i, bt m i = false ↔ m / 2 ^ i % 2 = 0 := fun i => by
    unfold bt
    rw [decide_eq_false_iff_not]
    omega
  rw [e1, e2, e3, cv, cv]
  unfold fr
  simp only [Bool.and_eq_true, Bool.not_eq_true', Bool.and_eq_false_iff, beq_eq_false_iff_ne, b0]
  generalize m / 2 ^ (12 - (j + 1) / 3) = x
  generalize m / 2 ^ (9 - (j + 1)) = y
  omega
theorem inn_rn {ws : List Int} {n : Nat} {x : Int × Int × Int} : ∀ j : Nat, j ≤ 9 → inn ws ((n : Int) + 1) x j = rn (demD ws n) 1 j x
  | 0, _ => rfl
  | j + 1, hj => by
    rw [rn_snoc]
    show innStep ws ((n : Int) + 1) (1 + (j : Int) * 1) (inn ws ((n : Int) + 1) x j) = _
    rw [inn_rn j (by omega)]
    generalize rn (demD ws n) 1 j x = y
    have hd : demD ws n (1 + j) = (ws.count (9 * ((n : Int) + 1) + (1 + (j : Int) * 1) - 10) : Nat) := by
      show (if 1 ≤ 1 + j ∧ 1 + j ≤ 9 then ((ws.count (9 * (n : Int) + ((1 + j : Nat) : Int) - 1) : Nat) : Int) else 0) = _
      rw [if_pos (by omega)]
      congr 2
      omega
    have e9 : (9 - (1 + (j : Int) * 1)).toNat = 9 - (1 + j) := by omega
    have hc := free_cond (m := y.1) (by omega : j < 9)
    rw [show j + 1 = 1 + j by omega] at hc
    unfold innStep lnStep
    rw [hd]
    by_cases hf : 0 < y.2.1 + ((ws.count (9 * ((n : Int) + 1) + (1 + (j : Int) * 1) - 10) : Nat) : Int) ∧ fr y.1 (1 + j) = true
    · rw [if_pos hf, if_pos ⟨hf.1, hc.mpr hf.2⟩, e9]
    · rw [if_neg hf, if_neg fun q => hf ⟨q.1, hc.mp q.2⟩]
theorem rn_come {d : Nat → Int} {c m s : Int} : rn d 1 9 (m, c, s) = rn (addP d 1 c) 1 9 (m, 0, s) := by
  show rn d 2 8 (lnStep d 1 (m, c, s)) = rn (addP d 1 c) 2 8 (lnStep (addP d 1 c) 1 (m, 0, s))
  have e : lnStep (addP d 1 c) 1 (m, 0, s) = lnStep d 1 (m, c, s) := by
    unfold lnStep
    simp only [addP_self, show 0 + (d 1 + c) = c + d 1 by omega]
  rw [e]
  exact rn_congr 8 2 _ fun i a b => (addP_ne (by omega)).symm
/-- the telling, row by row -/
noncomputable def xs (ms ws : List Int) : Nat → TS
  | 0 => (ms, demD ws, 0, 0)
  | i + 1 => tStep (5 - i) (xs ms ws i)
theorem xs_all (ms ws : List Int) : tRes 6 ms (demD ws) 0 0 = ((xs ms ws 6).1, (xs ms ws 6).2.2) := id rfl
noncomputable def txF (ms : List Int) : Nat → Str
  | 0 => Str.ofString ""
  | i + 1 => rowS (5 - i) (fmS (ms.getD (5 - i) 0)) ++ txF ms i
theorem txF_set {ms : List Int} {k : Nat} {v : Int} : ∀ i, i + k ≤ 5 → txF (ms.set k v) i = txF ms i
  | 0, _ => rfl
  | i + 1, h => by
    show rowS (5 - i) (fmS ((ms.set k v).getD (5 - i) 0)) ++ txF (ms.set k v) i = rowS (5 - i) (fmS (ms.getD (5 - i) 0)) ++ txF ms i
    rw [getD_set_ne (by omega : k ≠ 5 - i), txF_set i (by omega)]
theorem txF_all (ms : List Int) : txF ms 6 = lstS ms := by
  apply cl_inj
  unfold lstS lstL
  rw [cl_join]
  show cl (rowS 0 (fmS (ms.getD 0 0)) ++ (rowS 1 (fmS (ms.getD 1 0)) ++ (rowS 2 (fmS (ms.getD 2 0)) ++ (rowS 3 (fmS (ms.getD 3 0)) ++ (rowS 4 (fmS (ms.getD 4 0)) ++ (rowS 5 (fmS (ms.getD 5 0)) ++ Str.ofString "")))))) = _
  simp only [cl_app, List.flatMap_cons, List.flatMap_nil]
  rfl
theorem par_half {n : Nat} (h0 : n ≠ 0) (h : n < 6) : ((n : Int) + 1).fdiv 2 = ((parS n + 1 : Nat) : Int) := by
  rcases six h with rfl | rfl | rfl | rfl | rfl | rfl
  · exact absurd rfl h0
  all_goals decide
theorem told_inv {ms ws : List Int} (hM : Modes ms) : ∀ i, i ≤ 6 →
    (toldSt ms ws i).1.length = 7 ∧ (toldSt ms ws i).1.getD 0 0 = (xs ms ws i).2.2.1 ∧ (toldSt ms ws i).2.1 = (xs ms ws i).2.2.2 ∧
    (∀ k, k < 6 - i → (xs ms ws i).2.1 k = addP (demD ws k) 1 ((toldSt ms ws i).1.getD (k + 1) 0)) ∧ (∀ k, k < 6 - i → (xs ms ws i).1.getD k 0 = ms.getD k 0) ∧
    (toldSt ms ws i).2.2 = txF (xs ms ws i).1 i ∧ Modes (xs ms ws i).1
  | 0, _ => by
    refine ⟨rfl, rfl, rfl, fun k hk => ?_, fun _ _ => rfl, rfl, hM⟩
    show demD ws k = addP (demD ws k) 1 ((List.replicate 7 (0 : Int)).getD (k + 1) 0)
    have : (List.replicate 7 (0 : Int)).getD (k + 1) 0 = 0 := by
      rcases six (by omega : k < 6) with rfl | rfl | rfl | rfl | rfl | rfl <;> rfl
    rw [this]
    funext p
    unfold addP
    simp
  | i + 1, hi => by
    obtain ⟨hl, ho, hp, hD, hm, ht, hMo⟩ := told_inv (ws := ws) hM i (by omega)
    generalize hT : toldSt ms ws i = T at hl ho hp hD ht
    generalize hX : xs ms ws i = X at ho hp hD hm ht hMo
    obtain ⟨come, ps, tx⟩ := T
    obtain ⟨msi, D, ou, ps'⟩ := X
    simp only at hl ho hp hD hm ht hMo
    have eT : toldSt ms ws (i + 1) = toldStep ms ws i (come, ps, tx) := by rw [← hT]; rfl
    have eX : xs ms ws (i + 1) = tStep (5 - i) (msi, D, ou, ps') := by rw [← hX]; rfl
    rw [eT, eX]
    obtain ⟨n, hn⟩ : ∃ n, n = 5 - i := ⟨_, rfl⟩
    have hn6 : n < 6 := by omega
    have ek : (6 : Int) + (i : Int) * -1 = (n : Int) + 1 := by omega
    have ey : inn ws ((n : Int) + 1) (ms.getD n 0, come.getD (n + 1) 0, ps) 9 = rn (D n) 1 9 (msi.getD n 0, 0, ps') := by
      rw [inn_rn 9 (Nat.le_refl 9), rn_come, hD n (by omega), hm n (by omega), hp]
    have hmn := modes_at hMo hn6
    have hyr := rn_range (d := D n) 9 1 (msi.getD n 0) 0 ps' (Nat.le_refl 1) (by decide) hmn.1 hmn.2
    unfold toldStep tStep
    simp only [ek, ← hn]
    rw [show ((n : Int) + 1 - 1).toNat = n by omega, show ((n : Int) + 1).toNat = n + 1 by omega, ey]
    generalize rn (D n) 1 9 (msi.getD n 0, 0, ps') = y at hyr ⊢
    refine ⟨by rw [List.length_set]; exact hl, ?_, rfl, ?_, ?_, ?_, modes_set hMo n hyr.1 hyr.2⟩
    · by_cases hz : n = 0
      · subst hz
        have e0 : (((0 : Nat) : Int) + 1).fdiv 2 = 0 := by decide
        rw [e0, if_pos rfl]
        rw [show (0 : Int).toNat = 0 from rfl, getD_set_self (by omega), ho]
      · rw [if_neg hz, par_half hz hn6, Int.toNat_natCast, getD_set_ne (by omega)]
        exact ho
    · intro k hk
      have hz : n ≠ 0 := by omega
      rw [if_neg hz, par_half hz hn6, Int.toNat_natCast]
      by_cases hkp : k = parS n
      · subst hkp
        rw [addD_row, hD _ (by omega), getD_set_self (by omega)]
        funext p
        unfold addP
        split <;> omega
      · rw [addD_off hkp, getD_set_ne (by omega), hD k (by omega)]
    · intro k hk
      rw [getD_set_ne (by omega)]
      exact hm k (by omega)
    · show _ = rowS (5 - i) (fmS ((msi.set n y.1).getD (5 - i) 0)) ++ txF (msi.set n y.1) i
      rw [← hn, getD_set_self (by rw [hMo.1]; exact hn6), txF_set i (by omega), ← ht, sg_fm hyr.1 hyr.2]
/-- the law: served in any order is told -/
theorem law_eq {ms ws : List Int} (hM : Modes ms) (hw : ∀ x ∈ ws, 0 ≤ x ∧ x < 54) : lstS (servedSt ms ws ws.length).1 = (toldSt ms ws 6).2.2 ∧ (servedSt ms ws ws.length).2.1 = (toldSt ms ws 6).1.getD 0 0 ∧ (servedSt ms ws ws.length).2.2 = (toldSt ms ws 6).2.1 := by
  obtain ⟨_, ho, hp, _, _, ht, _⟩ := told_inv (ws := ws) hM 6 (Nat.le_refl 6)
  rw [served_told hM hw, xs_all, ht, ho, hp, txF_all]
  exact ⟨rfl, rfl, rfl⟩
theorem law_eq_rev {ms ws : List Int} (hM : Modes ms) (hw : ∀ x ∈ ws, 0 ≤ x ∧ x < 54) : servedSt ms ws.reverse ws.reverse.length = servedSt ms ws ws.length := by
  rw [served_told hM hw, served_told hM (fun x hx => hw x (List.mem_reverse.mp hx)), demD_rev]
end Mine
end
section
open PySem PySem.W PyProof.Rows PySem.Calls
namespace Mine
/-- what a served tuple holds, its ledger behind it -/
noncomputable def SrvPost (L3 : List (Addr × Obj)) (x : Str) (a b : Int) (v : Value) (nw : List (Addr × Obj)) : Prop := ∃ (T : Addr) (t1 t2 t3 : Tok) (n : Nat) (tab : List (Addr × Obj)), v = .ref T ∧ nw = (T, { cls := .type "tuple", data := .seq #[.str x t1, .int a t2, .int b t3] n }) :: (L3 ++ tab) ∧ TabLed tab
theorem row_start {now : List Int} {tx p : Str} {kk : Nat} (htx : tx = lstS now) (hk : kk < 6) (hp : p = pathsL.getD kk Str.empty) :
    Txt.find3 tx (Str.ofString "\n" ++ p ++ Str.ofString " ") 0 + (p.length : Int) + 2 = offS kk ∧ 0 ≤ Txt.find3 tx (Str.ofString "\n" ++ p ++ Str.ofString " ") 0 ∧ Txt.find3 tx (Str.ofString "\n" ++ p ++ Str.ofString " ") 0 + (p.length : Int) ≤ 83 := by
  subst htx hp
  have h := find_row now hk
  unfold pk at h
  rw [h]
  rcases six hk with rfl | rfl | rfl | rfl | rfl | rfl <;> decide
theorem free_facts {now : List Int} {tx : Str} {kk : Nat} {pos st : Int} (hM : Modes now) (htx : tx = lstS now) (hk : kk < 6) (h0 : 1 ≤ pos) (h9 : pos ≤ 9) (hst : st = offS kk) :
    Txt.find3 tx (Str.ofString "-") (st + pos) < tx.length ∧ (0 ≤ Txt.find3 tx (Str.ofString "-") (st + pos) → st + pos ≤ Txt.find3 tx (Str.ofString "-") (st + pos)) ∧ (pos ≤ freeR tx st pos ∧ freeR tx st pos ≤ 10) := by
  subst htx hst
  obtain ⟨q, rfl⟩ := Int.eq_ofNat_of_zero_le (by omega : 0 ≤ pos)
  obtain ⟨a, b, r, hr, c, d, _, _⟩ := free_spec now hk (modes_at hM hk).1 (q := q) (by omega) (by omega)
  refine ⟨a, b, ?_⟩
  rw [hr]
  omega
theorem place_modes {now : List Int} {tx : Str} {kk : Nat} {pos st pl P : Int} (hM : Modes now) (htx : tx = lstS now) (hk : kk < 6) (h0 : 1 ≤ pos) (h9 : pos ≤ 9) (hst : st = offS kk) (hpl : pl = freeR tx st pos) (hlt : pl < 10) (hP : PowIs P (9 - pl)) :
    Modes (now.set kk (now.getD kk 0 + P)) ∧ 0 ≤ now.getD kk 0 + P ∧ now.getD kk 0 + P < 65536 := by
  subst htx hst
  obtain ⟨q, rfl⟩ := Int.eq_ofNat_of_zero_le (by omega : 0 ≤ pos)
  have hm := modes_at hM hk
  obtain ⟨a, b, r, hr, c, d, _, hf⟩ := free_spec now hk hm.1 (q := q) (by omega) (by omega)
  rw [hr] at hpl
  subst hpl
  unfold PowIs at hP
  rw [show ((9 : Int) - (r : Int)).toNat = 9 - r by omega] at hP
  have hg := fr_range hm.1 hm.2 (by omega) (by omega) (hf (by omega))
  rw [← hP] at hg
  exact ⟨modes_set hM kk hg.1 hg.2, hg.1, hg.2⟩
theorem end_place {k : Nat} {now now5 : List Int} {tx : Str} {kk : Nat} {pos st pl P ou ps : Int} {target : List Int × Int × Int} (htg : climbF k now kk pos ou ps = target) (hdep : depS kk < k) (htx : tx = lstS now) (hst : st = offS kk) (hpl : pl = freeR tx st pos) (hlt : pl < 10) (hP : PowIs P (9 - pl)) (h5 : now5 = now.set kk (now.getD kk 0 + P)) : (now5, ou, ps + (pl - pos)) = target := by
  subst htx hst
  obtain ⟨k', rfl⟩ : ∃ k', k = k' + 1 := ⟨k - 1, by omega⟩
  rw [← htg, h5]
  unfold climbF
  rw [← hpl, if_pos hlt]
  unfold PowIs at hP
  rw [hP]
theorem end_out {k : Nat} {now : List Int} {tx : Str} {kk : Nat} {pos st pl ou ps : Int} {target : List Int × Int × Int} (htg : climbF k now kk pos ou ps = target) (hdep : depS kk < k) (htx : tx = lstS now) (hst : st = offS kk) (hpl : pl = freeR tx st pos) (hlt : ¬ pl < 10) (hz : kk = 0) : (now, ou + 1, ps + (pl - pos)) = target := by
  subst htx hst
  obtain ⟨k', rfl⟩ : ∃ k', k = k' + 1 := ⟨k - 1, by omega⟩
  rw [← htg]
  unfold climbF
  rw [← hpl, if_neg hlt, if_pos hz]
theorem end_up {k : Nat} {now : List Int} {tx : Str} {kk : Nat} {pos st pl ou ps : Int} {target : List Int × Int × Int} (htg : climbF k now kk pos ou ps = target) (hdep : depS kk < k) (hk : kk < 6) (htx : tx = lstS now) (hst : st = offS kk) (hpl : pl = freeR tx st pos) (hlt : ¬ pl < 10) (hz : kk ≠ 0) : climbF (k - 1) now (parS kk) 1 ou (ps + (pl - pos)) = target ∧ depS (parS kk) < k - 1 ∧ parS kk < 6 := by
  subst htx hst
  obtain ⟨k', rfl⟩ : ∃ k', k = k' + 1 := ⟨k - 1, by omega⟩
  have hd := depS_par (by omega : 0 < kk) hk
  have hp := parS_lt (by omega : 0 < kk)
  refine ⟨?_, by omega, by omega⟩
  rw [← htg]
  show _ = climbF (k' + 1) now kk pos ou ps
  conv => rhs; unfold climbF
  rw [← hpl, if_neg hlt, if_neg hz]
  rfl
theorem path_root {p : Str} {kk : Nat} (hk : kk < 6) (hp : p = pathsL.getD kk Str.empty) (h : p = Str.ofString "/") : kk = 0 := by
  rcases Nat.eq_zero_or_pos kk with h0 | h0
  · exact h0
  · exact absurd (hp.symm.trans h) (paths_apart kk 0 hk (by decide) (by omega))
theorem path_not {p : Str} {kk : Nat} (hp : p = pathsL.getD kk Str.empty) (h : p ≠ Str.ofString "/") : kk ≠ 0 := fun e => h (by rw [hp, e]; rfl)
theorem text_new {now now5 : List Int} {tx x : Str} {kk : Nat} {st : Int} (hM : Modes now) (htx : tx = lstS now) (hk : kk < 6) (hst : st = offS kk) {v : Int} (hx : x = fmS (now5.getD kk 0)) (h5 : now5 = now.set kk v) : Txt.slice tx none (some st) ++ x ++ Txt.slice tx (some (st + 10)) none = lstS now5 := by
  subst htx hst hx h5
  rw [getD_set_self (by rw [hM.1]; exact hk)]
  exact slice_row hM.1 hk v
theorem tab_data {tab : List (Addr × Obj)} (ht : TabLed tab) {vs : Array Value} {n : Nat} : ∀ p ∈ tab, p.2 ≠ W.listOf vs n := by
  intro p hp e
  have hd : p.2.data = .seq vs n := by rw [e]
  rcases ht with rfl | ⟨c, oc, rfl, _, fs, t, hf, _⟩
  · obtain rfl := List.mem_singleton.mp hp
    exact absurd hd (fun q => nomatch q)
  · rcases List.mem_cons.mp hp with rfl | hp
    · exact absurd hd (fun q => nomatch q)
    · obtain rfl := List.mem_singleton.mp hp
      simp only [hf] at hd
      exact absurd hd (fun q => nomatch q)
theorem tab_off {g h : Heap} {L : Addr} {all tab : List (Addr × Obj)} (N : News g L h all) (ht : TabLed tab) (hs : ∀ p ∈ tab, p ∈ all) {q : Addr × Obj} (hq : q ∈ all) {vs : Array Value} {n : Nat} (hd : q.2 = W.listOf vs n) : ∀ p ∈ tab, q.1 ≠ p.1 := by
  intro p hp e
  have h1 := (N p (hs p hp)).1
  have h2 := (N q hq).1
  rw [e, h1] at h2
  exact tab_data ht p hp ((Option.some.inj h2).trans hd)
theorem tab_apart {g h : Heap} {L : Addr} {all tab : List (Addr × Obj)} {I1 Nw a b c : Addr} {oi : Obj} {v0 v1 v2 v3 : Array Value} {n0 n1 n2 n3 : Nat} (N : News g L h all) (ht : TabLed tab)
    (hs : ∀ p ∈ tab ++ [(I1, oi), (Nw, W.listOf v0 n0), (a, W.listOf v1 n1), (b, W.listOf v2 n2), (c, W.listOf v3 n3)], p ∈ all)
    (hI : ∀ p ∈ (Nw, W.listOf v0 n0) :: (a, W.listOf v1 n1) :: (b, W.listOf v2 n2) :: (c, W.listOf v3 n3) :: tab, p.1 ≠ I1) :
    ∀ p ∈ tab, ∀ q ∈ [(I1, oi), (Nw, W.listOf v0 n0), (a, W.listOf v1 n1), (b, W.listOf v2 n2), (c, W.listOf v3 n3)], q.1 ≠ p.1 := by
  intro p hp q hq
  have ho : ∀ q ∈ [(I1, oi), (Nw, W.listOf v0 n0), (a, W.listOf v1 n1), (b, W.listOf v2 n2), (c, W.listOf v3 n3)], ∀ vs n, q.2 = W.listOf vs n → q.1 ≠ p.1 := fun q hq vs n hd => tab_off N ht (fun p hp => hs p (List.mem_append_left _ hp)) (hs q (List.mem_append_right _ hq)) hd p hp
  rcases List.mem_cons.mp hq with e | hq'
  · rw [e]; exact (hI p (.tail _ (.tail _ (.tail _ (.tail _ hp))))).symm
  · rcases List.mem_cons.mp hq' with e | hq'
    · exact ho q hq v0 n0 (by rw [e])
    · rcases List.mem_cons.mp hq' with e | hq'
      · exact ho q hq v1 n1 (by rw [e])
      · rcases List.mem_cons.mp hq' with e | hq'
        · exact ho q hq v2 n2 (by rw [e])
        · rcases List.mem_cons.mp hq' with e | hq'
          · exact ho q hq v3 n3 (by rw [e])
          · nomatch hq'
/-- who stands apart behind _law_free's call -/
theorem off_list {Nw I1 : Addr} {oi o1 o2 : Obj} {abc tab4 tab5 : List (Addr × Obj)} (hoff4 : ∀ p ∈ (I1, oi) :: (abc ++ tab4), p.1 ≠ Nw) (hnr : ∀ p ∈ tab5, ∀ q ∈ (I1, o1) :: (Nw, o2) :: abc, q.1 ≠ p.1) : ∀ p ∈ (I1, oi) :: (abc ++ tab5), p.1 ≠ Nw := by
  intro p hp
  rcases List.mem_cons.mp hp with h | h
  · exact hoff4 p (by rw [h]; exact .head _)
  · rcases List.mem_append.mp h with h | h
    · exact hoff4 p (.tail _ (List.mem_append_left _ h))
    · exact (hnr p h _ (.tail _ (.head _))).symm
theorem off_iter {Nw I1 : Addr} {oi o o' o2 : Obj} {abc tab4 tab5 : List (Addr × Obj)} (hoffI : ∀ p ∈ (Nw, o) :: (abc ++ tab4), p.1 ≠ I1) (hnr : ∀ p ∈ tab5, ∀ q ∈ (I1, oi) :: (Nw, o2) :: abc, q.1 ≠ p.1) : ∀ p ∈ (Nw, o') :: (abc ++ tab5), p.1 ≠ I1 := by
  intro p hp
  rcases List.mem_cons.mp hp with h | h
  · rw [h]; exact hoffI (Nw, o) (.head _)
  · rcases List.mem_append.mp h with h | h
    · exact hoffI p (.tail _ (List.mem_append_left _ h))
    · exact (hnr p h _ (.head _)).symm
theorem allLt_off {D : Addr} : ∀ {tab : List (Addr × Obj)}, AllLt D tab → ∀ p ∈ tab, p.1 ≠ D
  | [], _, _, hp => nomatch hp
  | _ :: _, h, p, hp => by
    rcases List.mem_cons.mp hp with e | e
    · rw [e]; exact Nat.ne_of_lt h.1
    · exact allLt_off h.2 p e
theorem off_three {D a b c : Addr} {oa ob oc : Obj} {tab : List (Addr × Obj)} (h : a < D ∧ b < D ∧ c < D ∧ AllLt D tab) : ∀ p ∈ (a, oa) :: (b, ob) :: (c, oc) :: tab, p.1 ≠ D := by
  intro p hp
  rcases List.mem_cons.mp hp with e | hp
  · rw [e]; exact Nat.ne_of_lt h.1
  · rcases List.mem_cons.mp hp with e | hp
    · rw [e]; exact Nat.ne_of_lt h.2.1
    · rcases List.mem_cons.mp hp with e | hp
      · rw [e]; exact Nat.ne_of_lt h.2.2.1
      · exact allLt_off h.2.2.2 p hp
end Mine
end
local macro_rules | `(tactic| k_all) => `(tactic| first | exact List.forall_mem_nil _ | assumption | (refine' List.forall_mem_cons.mpr ⟨?a, ?b⟩; (case a => k_ne); (case b => k_all)))
theorem Mine.lines_f : True := by
  (k_with "call ref" =>
    (k_here; (with_reducible show wpAny _ _ (call (Value.ref 196) [Value.int _ _] _) _ _ _); (refine Mine.stopHere ?_)))
  (k_with "call ref" =>
    (k_here; (with_reducible show wpAny _ _ (call (Value.ref 196) [Value.int _ _] _) _ _ _); k_dflt (refine' Mine.use_fm ?wya ?wyb ?wyhz ?wyA ?wycf ?wyck ?wyB ?wyF ?wyX ?wyN ?wyT ?wyXB ?wyTB ?wyD ?wyC ?wyr1 ?wyr2 ?_; (case wyhz => exact rfl); (case wyA => exact rfl); (case wycf => first | exact rfl | assumption); (case wyck => first | exact rfl | assumption); (case wyB => k_asm); (case wyF => k_asm); (case wyX => k_asm); (case wyN => k_asm); (case wyT => k_asm); (case wyXB => assumption); (case wyTB => assumption); (case wyD => assumption); (case wyC => assumption); (case wyr1 => first | ktr_room | (simp only [Around.mark, Around.deeper]; omega)); (case wyr2 => first | ktr_room | (simp only [Around.mark, Around.deeper]; omega)); (case wya => first | assumption | omega); (case wyb => first | assumption | omega); k_whole); intro wyx' wyt' wyh' wytk' wyg' wyhx' wyhxl' wyTu' wyB' wyF' wyX' wyN' wyT' wyD'; (try dsimp only); (try k_lift wyB'); (try k_sweep)))
  (k_with "call builtin:frozenset.isdisjoint" =>
    (k_here; k_dflt (refine' Mine.kz_dis0 ?wyF ?wyN ?wyhh ?wym ?wyS ?_; (case wyF => k_asm); (case wyN => k_asm); (case wyhh => exact rfl); (case wyS => assumption); (case wym => k_mem); k_whole; intro wyh' wytk' wyF' wyN'; (try k_sweep))))
  (k_with "call ref" =>
    (k_here; (with_reducible show wpAny _ _ (call (Value.ref 210) [Value.str _ _, Value.int _ _, Value.int _ _] _) _ _ _); (refine Mine.stopHere ?_)))
  (k_with "call ref" =>
    (k_here; (with_reducible show wpAny _ _ (call (Value.ref 149) [Value.str _ _] _) _ _ _); k_dflt (refine' Mine.use_dir ?wya ?wyb ?wyA ?wycf ?wyck ?wyB ?wyF ?wyX ?wyN ?wyT ?wyXB ?wyTB ?wyD ?wyC ?wyr1 ?wyr2 ?_; (case wyA => exact rfl); (case wyb => assumption); (case wya => assumption); (case wycf => first | exact rfl | assumption); (case wyck => first | exact rfl | assumption); (case wyB => k_asm); (case wyF => k_asm); (case wyX => k_asm); (case wyN => k_asm); (case wyT => k_asm); (case wyXB => assumption); (case wyTB => assumption); (case wyD => assumption); (case wyC => assumption); (case wyr1 => first | ktr_room | (simp only [Around.mark, Around.deeper]; omega)); (case wyr2 => first | ktr_room | (simp only [Around.mark, Around.deeper]; omega)); k_whole); intro wyx' wyt' wyh' wytk' wyg' wyhx' wyTu' wyB' wyF' wyX' wyN' wyT' wyD'; (try dsimp only); (try k_lift wyB'); (try k_sweep)))
  (k_with "call builtin:list.index" =>
    (k_here; (with_reducible show wpAny _ _ (call (Value.builtin _) [Value.ref _, Value.str _ _]) _ _ _); k_dflt (refine' Mine.index_path ?wyl ?wyw ?wyk ?wyp ?_; (case wyl => exact News.isList (by k_asm) (by k_mem)); (case wyw => with_reducible assumption); (case wyp => with_reducible assumption); (case wyk => with_reducible assumption); k_whole)))
  (k_with "eval ListComp BinOp cons" =>
    (k_here; (with_reducible show wpAny _ _ (eval (Expr.ListComp _ [⟨Expr.Tuple _ _ _, _, _, _⟩] _ _) _) _ _ _); k_dflt (refine' Mine.comp_open ?wycl ?wyk ?wyn ?_ ?wyhs; (case wycl => exact rfl); (case wyk => exact rfl); (case wyn => decide); (case wyhs => (intro _; rfl)); k_whole)))
  (k_with "eval ListComp" =>
    (k_here; (with_reducible show wpAny _ _ (eval (Expr.ListComp _ [⟨Expr.Tuple _ _ _, _, _, _⟩] _ _) _) _ _ _); k_dflt (refine' Mine.comp_open ?wycl ?wyk ?wyn ?_ ?wyhs; (case wycl => exact rfl); (case wyk => exact rfl); (case wyn => decide); (case wyhs => (intro _; rfl)); k_whole)))
  (k_with "call type:zip" =>
    (refine Mine.stopHere ?_))
  (k_with "exec While" =>
    (refine Mine.stopHere ?_))
  (k_with "exec While Name cons nil" =>
    (refine Mine.stopHere ?_))
  trivial
section
open PySem PySem.W PyProof.Rows
namespace Mine
theorem spec_served (w : World) (mean mg mb) (tab : List (Addr × Obj)) (htab : TabLed tab) (a b c : Addr) (vp vm vw : List Value) (np nm nw : Nat) (ms ws : List Int) (hP : StrsAre vp pathsL) (hM : IntsAre vm ms) (hW : IntsAre vw ws) (hml : ms.length = 6) (hm : ∀ x ∈ ms, 0 ≤ x ∧ x < 65536) (hwl : ws.length ≤ 19) (hwb : ∀ x ∈ ws, 0 ≤ x ∧ x < 54) :
    SpecS w mean mg mb 12 200 true 215 ((a, W.listOf vp.toArray np) :: (b, W.listOf vm.toArray nm) :: (c, W.listOf vw.toArray nw) :: tab) [.ref a, .ref b, .ref c] (SrvPost [(a, W.listOf vp.toArray np), (b, W.listOf vm.toArray nm), (c, W.listOf vw.toArray nw)] (lstS (servedSt ms ws ws.length).1) (servedSt ms ws ws.length).2.1 (servedSt ms ws ws.length).2.2) := by
  unfold SpecS
  k_fill
  intro hdl dp un gd cenv outer A₀ base h₀ L m s rest Q E hzA hcf hck B F X N hnr T XB TB D CH hd hu hret
  obtain rfl := hzA rfl
  refine wpAny_call ?_
  k_dflt (refine' Mine.kx_def ?cf ?ck ?k1 ?k2 ?k3 ?k4 ?knr ?k5 ?XB ?TB ?D ?kA ?k6 ?k7 ?k8 ?k9 ?kB ?_ ?c2 ?c3 ?c4 ?c5; (case kA => exact rfl); (case cf => exact hcf); (case ck => exact hck); (case k1 => exact B); (case k2 => exact F); (case k3 => exact X); (case k4 => exact N); (case knr => exact hnr); (case k5 => exact T); (case XB => assumption); (case TB => assumption); (case D => assumption); (case k6 => refine' Mine.ho_lit ?h6 ?p6 ?b6 ?s6; (case h6 => k_is); (case p6 => ((conv => lhs; whnf); try exact rfl)); (case b6 => ((conv => lhs; whnf); try exact rfl)); (case s6 => ((conv => lhs; whnf); try exact rfl))); (case k7 => k_is); (case k8 => ktr_room); (case k9 => exact BindsTo.of_eq rfl); (case c5 => decide); (case kB => exact locs rfl); (case c2 => exact rfl); (case c3 => exact rfl); (case c4 => exact rfl); k_whole; intro g' L' h' hgr FG' F' N' B' X' T' D'; (try dsimp only); (try k_lift B'); (try k_fold))
  repeat' (first | (k_unfold; (try dsimp only)) | walk1 | (dsimp only; walk1) | (leave1; walk_say "STEP leave1"; try dsimp only) | fail "no step")
  unfold Mine.StopHere
  rename (News _ _ _ _) => nP
  have hvm : vm.length = ms.length := hM.length
  have hvp : vp.length = 6 := hP.length
  k_dflt (refine' zip_comp (xs := vm) (ys := vp) (RowAt ms) ?hh ?C ?m1 ?m2 ?c1 ?d1 ?c2 ?d2 ?hn ?cell ?kd ?xa ?xb ?ab ?elem ?done)
  case hh => with_unfolding_all rfl
  case C => exact ⟨KtsTurn.refl, by assumption, by assumption, by assumption, nP, by assumption, by assumption⟩
  case m1 => k_mem
  case m2 => k_mem
  case c1 => exact rfl
  case d1 => exact rfl
  case c2 => exact rfl
  case d2 => exact rfl
  case hn => rw [sizeLine_eq]; omega
  case cell => decide
  case kd => exact rfl
  case xa => exact rfl
  case xb => exact rfl
  case ab => decide
  case elem =>
    rintro i x y h₀1 h1' tk1 C1 oC m₂ all E' hx hy hns e1 e2 CF
    obtain ⟨k, tq, hk, rfl⟩ := ints_at hM hx
    obtain ⟨p, tp, hp, rfl⟩ := strs_at hP hy
    have hkr := hm k (List.mem_of_getElem? hk)
    have hk0 := hkr.1
    have hk1 := hkr.2
    have hpl : p.length ≤ 5 := by
      have := pathsL_len i
      rw [List.getD_eq_getElem?_getD, hp] at this
      exact this
    clear hkr hx hy nP
    obtain ⟨Tt, B1, F1, X1, N1, T1, D1⟩ := CF
    repeat' (first | (k_unfold; (try dsimp only)) | walk1 | (dsimp only; walk1) | (leave1; walk_say "STEP leave1"; try dsimp only) | fail "no step")
    all_goals exact elem_end ⟨Tt.trans (by assumption), by assumption, by assumption, by assumption, by assumption, by assumption, by assumption⟩ (row_at hk hp (by assumption))
  case done =>
    rintro D h₀1 h1' tk1 zs hzl hzR CF nD
    obtain ⟨Tt, B1, F1, X1, N1, T1, D1⟩ := CF
    clear nP
    have hz6 : zs.length = 6 := by rw [hzl, hvm, hvp, hml]; rfl
    have hS9 : StrsAre zs.toArray.toList (lstL ms) := strs_rows hz6 hzR
    repeat' (first | (k_unfold; (try dsimp only)) | walk1 | (dsimp only; walk1) | (leave1; walk_say "STEP leave1"; try dsimp only) | fail "no step")
    k_dflt (refine' join_listW ?hl9 hS9 ?hs9 ?hw9 ?_; (case hl9 => exact News.isList N1 (.head _)); (case hs9 => decide); (case hw9 => exact lst_room ms); intro tj kj)
    repeat' (first | (k_unfold; (try dsimp only)) | walk1 | (dsimp only; walk1) | (leave1; walk_say "STEP leave1"; try dsimp only) | fail "no step")
    unfold Mine.StopHere
    rename (News _ _ _ _) => nP2
    rename (Fr _ _ _ _) => fP2
    k_dflt (refine' list_turns (vs := vw) (SvJ ms ws a b c vp vm vw np nm nw) ?hh3 ?C3 ?c3 ?d3 ?hm3 ?hst3 ?h03 ?turn3 ?done3 ?hE3)
    case hE3 => passes_own
    case C3 => exact ⟨KtsTurn.refl, by assumption, fP2, by assumption, fun p hp => nP2 p (.tail _ hp), by assumption, by assumption⟩
    case hh3 => with_unfolding_all rfl
    case hm3 => k_mem
    case c3 => exact rfl
    case d3 => exact rfl
    case hst3 =>
      rintro i m nws ⟨_, _, _, _, _, _, _, _, _, _, _, _, rfl, _, _, _, _, _, _, hl, hlo⟩
      rw [hl, hlo]
      exact .tail _ (.tail _ (.tail _ (.head _)))
    case h03 =>
      rename (_ ∧ _ ∧ _ ∧ AllLt _ _) => l13
      exact ⟨_, _, _, ms, _, _, _, _, _, _, tab, ⟨rfl, rfl, rfl, rfl, rfl, rfl, rfl, trivial⟩, rfl, htab, hM, ⟨hml, hm⟩, rfl, off_three l13, rfl, rfl, rfl⟩
    case turn3 =>
      rintro i v m1 nw1 h₀2 h2' tk2 I1 oi1 hv ⟨Nw, vn, kn, now, ou, ps, tx, t1, t2, t3, tab', hm1, rfl, htab', hIn, hMo, htx, hoffN, hst, _, _⟩ hoff C2
      obtain ⟨wish, twh, hwi, rfl⟩ := ints_at hW hv
      rw [← over_eq hm1] at C2
      clear hm1
      simp only [over] at C2
      have hwr := hwb wish (List.mem_of_getElem? hwi)
      have hf0 : 0 ≤ wish.fdiv 9 := by rw [Int.fdiv_eq_ediv_of_nonneg _ (by decide)]; omega
      have hf1 : wish.fdiv 9 < 6 := by rw [Int.fdiv_eq_ediv_of_nonneg _ (by decide)]; omega
      have hg0 : 0 ≤ wish.fmod 9 := by rw [Int.fmod_eq_emod_of_nonneg _ (by decide)]; omega
      have hg1 : wish.fmod 9 < 9 := by rw [Int.fmod_eq_emod_of_nonneg _ (by decide)]; omega
      clear N1 F1 B1 X1 T1 D1 nP2 fP2
      obtain ⟨Tt2, B2, F2, X2, N2, T2, D2⟩ := C2
      repeat' (first | (k_unfold; (try dsimp only)) | walk1 | (dsimp only; walk1) | (leave1; walk_say "STEP leave1"; try dsimp only) | fail "no step")
      unfold Mine.StopHere
      rename (News _ _ _ _) => nP4
      rename (Fr _ _ _ _) => fP4
      k_dflt (refine' while_turns (k0 := 3) (SvW a b c vp vm vw np nm nw I1 oi1 (climbF 3 now (wish.fdiv 9).toNat (1 + wish.fmod 9) ou ps)) ?C4 ?h04 ?turn4 ?hE4)
      case hE4 => passes_own
      case C4 => exact ⟨KtsTurn.refl, by assumption, fP4, by assumption, nP4, by assumption, by assumption⟩
      case h04 => exact ⟨_, _, _, now, _, _, _, (wish.fdiv 9).toNat, true, _, _, _, _, _, _, _, tab', ⟨rfl, rfl, rfl, rfl, rfl, rfl, rfl, rfl, rfl, rfl, trivial⟩, rfl, htab', hIn, hMo, htx, (fun p hp => (List.mem_cons.mp hp).elim (fun z => by rw [z]; exact fun q => hoff _ (.head _) q.symm) (hoffN p)), hoff, .inr ⟨rfl, by omega, by assumption, by omega, by omega, depS_lt _, rfl⟩⟩
      case turn4 =>
        clear nP4 fP4
        rintro k m4 nw4 h₀4 h4' tk4 ⟨Nw4, vn4, kn4, now4, ou4, ps4, pos4, kk, waits, tx4, p4, u1, u2, u3, u4, u5, tab4, hm4, rfl, htab4, hIn4, hMo4, htx4, hoff4, hoffI, hcase⟩ C4
        rw [← over_eq hm4] at C4
        clear hm4
        simp only [over] at C4
        obtain ⟨Tt4, B4, F4, X4, N4, T4, D4⟩ := C4
        clear N2 F2 B2 X2 T2 D2
        rcases hcase with ⟨rfl, htg⟩ | ⟨rfl, hkk, hp4, hpos0, hpos1, hdep, htg⟩
        · repeat' (first | (k_unfold; (try dsimp only)) | walk1 | (dsimp only; walk1) | (leave1; walk_say "STEP leave1"; try dsimp only) | fail "no step")
          all_goals
            exact lp_end ((Nw4, W.listOf vn4.toArray kn4) :: (a, W.listOf vp.toArray np) :: (b, W.listOf vm.toArray nm) :: (c, W.listOf vw.toArray nw) :: tab4) ⟨Tt2.trans Tt4, by assumption, by assumption, by assumption, by assumption, by assumption, by assumption⟩ (fun p hp => hp) (fun p hp hq => hoffI p hp (List.mem_singleton.mp hq))
              ⟨Nw4, vn4, kn4, now4, ou4, ps4, tx4, u1, u2, u3, tab4, ⟨rfl, rfl, rfl, rfl, rfl, rfl, rfl, trivial⟩, rfl, htab4, hIn4, hMo4, htx4, fun p hp => hoff4 p (.tail _ hp), htg.trans (served_step hst hwi), rfl, rfl⟩
        · have hpl : p4.length ≤ 5 := by rw [hp4]; exact pathsL_len kk
          have hln : tx4.length = 96 := by rw [htx4]; exact lst_len now4
          obtain ⟨hoS, hfd, hfd1⟩ := row_start htx4 hkk hp4
          have hnl4 : now4.length = 6 := hMo4.1
          repeat' (first | (k_unfold; (try dsimp only)) | walk1 | (dsimp only; walk1) | (leave1; walk_say "STEP leave1"; try dsimp only) | fail "no step")
          unfold Mine.StopHere
          rename (News _ _ _ _) => nP6
          rename (Fr _ _ _ _) => fP6
          k_dflt (refine' use_free (ex := [(I1, oi1), (Nw4, W.listOf vn4.toArray kn4), (a, W.listOf vp.toArray np), (b, W.listOf vm.toArray nm), (c, W.listOf vw.toArray nw)]) htab4 ?fx ?fch ?fst ?fst1 ?f0 ?f1 ?ff1 ?ff2 ?fb ?fz ?fA ?fcf ?fck ?fB fP6 ?fX nP6 ?fT ?fXB ?fTB ?fD ?fC ?fr1 ?fr2 ?fhs ?fnr ?fk)
          case fx => omega
          case fch => rw [htx4]; exact lst_ok now4
          case fst => omega
          case fst1 => omega
          case f0 => omega
          case f1 => omega
          case ff1 => exact (free_facts hMo4 htx4 hkk hpos0 hpos1 hoS).1
          case ff2 => exact (free_facts hMo4 htx4 hkk hpos0 hpos1 hoS).2.1
          case fb => exact (free_facts hMo4 htx4 hkk hpos0 hpos1 hoS).2.2
          case fz => exact rfl
          case fA => exact rfl
          case fcf => exact rfl
          case fck => exact rfl
          case fB => assumption
          case fX => assumption
          case fT => assumption
          case fXB => assumption
          case fTB => assumption
          case fD => assumption
          case fC => assumption
          case fr1 => first | ktr_room | (simp only [Around.mark, Around.deeper]; omega)
          case fr2 => first | ktr_room | (simp only [Around.mark, Around.deeper]; omega)
          case fhs => exact fun p hp => .tail _ ((List.mem_append.mp hp).elim (fun h => .tail _ (.tail _ (.tail _ (.tail _ (.tail _ h))))) (fun h => List.mem_append_left tab4 h))
          case fnr => exact tab_apart nP6 htab4 (fun p hp => .tail _ ((List.mem_append.mp hp).elim (fun h => .tail _ (.tail _ (.tail _ (.tail _ (.tail _ h))))) (fun h => List.mem_append_left tab4 h))) hoffI
          case fk =>
            clear nP6 fP6
            rintro pl tok tab5 h5' tk5 h₀5 hplq hpl0 hpl1 htab5 hnr5 Tt5 B5 F5 X5 N5 T5 D5
            have w1 : NeA I1 Nw4 := hoff4 _ (.head _)
            have w2 : NeA a Nw4 := hoff4 _ (.tail _ (.head _))
            have w3 : NeA b Nw4 := hoff4 _ (.tail _ (.tail _ (.head _)))
            have w4 : NeA c Nw4 := hoff4 _ (.tail _ (.tail _ (.tail _ (.head _))))
            have w5 : ∀ p ∈ tab5, p.1 ≠ Nw4 := fun p hp => (hnr5 p hp _ (.tail _ (.head _))).symm
            repeat' (first | (k_unfold; (try dsimp only)) | walk1 | (dsimp only; walk1) | (leave1; walk_say "STEP leave1"; try dsimp only) | fail "no step")
            focus
              unfold Mine.StopHere
              rename (IntsAre _ (List.set _ _ _)) => hi5
              obtain ⟨now5, hn5, hi6⟩ := gen_ints hi5
              rw [← hn5]
              rename (PowIs _ _) => hpw
              obtain ⟨hM5, hb50, hb51⟩ := place_modes hMo4 htx4 hkk hpos0 hpos1 hoS hplq (by assumption) hpw
              have hn5' : now5 = now4.set kk (now4.getD kk 0 + _) := hn5
              rw [← hn5'] at hM5
              have hg5 : now5.getD ((kk : Nat) : Int).toNat 0 = now4.getD kk 0 + _ := (congrArg (fun l => l.getD kk 0) hn5').trans (getD_set_self (by rw [hnl4]; exact hkk))
              rw [← hg5] at hb50 hb51
              have hnl5 : now5.length = 6 := hM5.1
              repeat' (first | (k_unfold; (try dsimp only)) | walk1 | (dsimp only; walk1) | (leave1; walk_say "STEP leave1"; try dsimp only) | fail "no step")
              rename (KtsTurn _ _ _) => hTu2
              rename (KtsTurn _ h₀5 _) => hTu1
              rename (_ = fmS _) => hxf
              exact wp_end ((I1, oi1) :: (Nw4, _) :: (a, W.listOf vp.toArray np) :: (b, W.listOf vm.toArray nm) :: (c, W.listOf vw.toArray nw) :: tab5)
                ⟨Tt4.trans (Tt5.trans (hTu1.trans hTu2)), by assumption, by assumption, by assumption, by assumption, by assumption, by assumption⟩ (fun p hp => hp)
                ⟨k - 1, by omega, Nw4, _, kn4, now5, ou4, _, _, 0, false, _, _, _, _, _, _, _, tab5, ⟨rfl, rfl, rfl, rfl, rfl, rfl, rfl, rfl, rfl, rfl, trivial⟩, rfl, htab5, hi6, hM5, text_new hMo4 htx4 hkk hoS hxf hn5', off_list hoff4 hnr5, off_iter hoffI hnr5, .inl ⟨rfl, end_place htg hdep htx4 hoS hplq (by assumption) hpw hn5'⟩⟩
            all_goals
              rename (¬ _ < (10 : Int)) => hlt5
              rename (KtsTurn _ _ _) => hTu2
              first
                | (rename ((_ == _) = true) => hpe
                   have hz := path_root hkk hp4 (eq_of_beq hpe)
                   exact wp_end ((I1, oi1) :: (Nw4, W.listOf vn4.toArray kn4) :: (a, W.listOf vp.toArray np) :: (b, W.listOf vm.toArray nm) :: (c, W.listOf vw.toArray nw) :: tab5)
                     ⟨Tt4.trans (Tt5.trans hTu2), by assumption, by assumption, by assumption, by assumption, by assumption, by assumption⟩ (fun p hp => hp)
                     ⟨k - 1, by omega, Nw4, vn4, kn4, now4, _, _, _, 0, false, _, _, _, _, _, _, _, tab5, ⟨rfl, rfl, rfl, rfl, rfl, rfl, rfl, rfl, rfl, rfl, trivial⟩, rfl, htab5, hIn4, hMo4, htx4, off_list hoff4 hnr5, off_iter hoffI hnr5, .inl ⟨rfl, end_out htg hdep htx4 hoS hplq hlt5 hz⟩⟩)
                | (rename ((_ == _) = false) => hpe
                   rename (_ = pathsL.getD (parS kk) _) => hxp
                   have hz := path_not hp4 (fun e => by rw [e] at hpe; exact Bool.noConfusion ((beq_self_eq_true _).symm.trans hpe))
                   obtain ⟨hup, hdu, hpk⟩ := end_up htg hdep hkk htx4 hoS hplq hlt5 hz
                   exact wp_end ((I1, oi1) :: (Nw4, W.listOf vn4.toArray kn4) :: (a, W.listOf vp.toArray np) :: (b, W.listOf vm.toArray nm) :: (c, W.listOf vw.toArray nw) :: tab5)
                     ⟨Tt4.trans (Tt5.trans hTu2), by assumption, by assumption, by assumption, by assumption, by assumption, by assumption⟩ (fun p hp => hp)
                     ⟨k - 1, by omega, Nw4, vn4, kn4, now4, _, _, _, parS kk, true, _, _, _, _, _, _, _, tab5, ⟨rfl, rfl, rfl, rfl, rfl, rfl, rfl, rfl, rfl, rfl, trivial⟩, rfl, htab5, hIn4, hMo4, htx4, off_list hoff4 hnr5, off_iter hoffI hnr5, .inr ⟨rfl, hpk, hxp, by decide, by decide, hdu, hup⟩⟩)
    case done3 =>
      rintro m9 nw9 h₀9 h9' tk9 ⟨Nw, vn, kn, now, ou, ps, tx, t1, t2, t3, tab', hm9, rfl, htab', hIn, hMo, htx, hoffN, hst, _, _⟩ C9
      rw [← over_eq hm9] at C9
      clear hm9 N1 F1 B1 X1 T1 D1 nP2 fP2
      simp only [over] at C9
      obtain ⟨Tt9, B9, F9, X9, N9, T9, D9⟩ := C9
      rw [hW.length] at hst
      have TtA := Tt.trans Tt9
      clear Tt Tt9
      repeat' (first | (k_unfold; (try dsimp only)) | walk1 | (dsimp only; walk1) | (leave1; walk_say "STEP leave1"; try dsimp only) | fail "no step")
      k_dflt (refine' fin (nw := (_, { cls := .type "tuple", data := .seq #[.str tx ?t1, .int ou ?t2, .int ps ?t3] 0 }) :: ([(a, W.listOf vp.toArray np), (b, W.listOf vm.toArray nm), (c, W.listOf vw.toArray nw)] ++ tab')) hret ?P ?sub hgr TtA ?Ng ?T1 ?B ?F ?X ?N ?R ?T ?D)
      case Ng => assumption
      case N => assumption
      case F => assumption
      case sub =>
        intro p hp
        rcases List.mem_cons.mp hp with z | z
        · rw [z]; exact .head _
        · exact .tail _ (.tail _ z)
      case P =>
        rw [← hst, ← htx]
        exact ⟨_, _, _, _, 0, tab', rfl, rfl, htab'⟩
      all_goals first | assumption | exact KtsTurn.refl
end Mine
end
end
section
open PySem PySem.W PyProof.Rows PySem.Calls
namespace Mine
theorem ints_pick {vs : List Value} {ns : List Int} (h : IntsAre vs ns) : ∀ l : List Nat, IntsAre (l.filterMap (vs.toArray[·]?)) (l.filterMap (ns[·]?))
  | [] => .nil
  | i :: r => by
    have ih := ints_pick h r
    rw [List.filterMap_cons, List.filterMap_cons]
    cases e : vs.toArray[i]? with
    | none =>
      have e' : vs[i]? = none := by simpa using e
      have hn : ns[i]? = none := by
        rw [List.getElem?_eq_none_iff] at e' ⊢
        rw [← h.length]; exact e'
      rw [hn]; exact ih
    | some x =>
      have e' : vs[i]? = some x := by simpa using e
      obtain ⟨k, t, hk, rfl⟩ := ints_at h e'
      rw [hk]; exact .cons k t ih
/-- the ints that a slice with a step picks -/
noncomputable def pickI (ns : List Int) (lo hi st : Option Int) : List Int := (sliceRange (sliceBounds lo hi st ns.length).1 (sliceBounds lo hi st ns.length).2.1 (sliceBounds lo hi st ns.length).2.2).filterMap (ns[·]?)
theorem pick_ints {vs : List Value} {ns : List Int} (h : IntsAre vs ns) (lo hi st : Option Int) : IntsAre (slicePick vs.toArray lo hi st).toList (pickI ns lo hi st) := by
  unfold slicePick pickI
  rw [List.size_toArray, h.length]
  exact ints_pick h _
section
variable {prog : Program} {w : World} {A : Around} {E : Value → Shared → Prop} {s : Shared} {h₀ : Heap} {L l : Addr} {m : Str → Option Value} {news : List (Addr × Obj)} {value slice : PySem.Expr} {vs : List Value} {ns : List Int} {vl vu vk : Value} {lo hi st : Option Int} {ops : List Value} {Q : Value → Shared → Prop}
theorem slice_step (F : Fr h₀ L s.heap m) (N : News h₀ L s.heap news) (hl : s.heap.IsList l vs.toArray) (pl : IsPart vl lo) (pu : IsPart vu hi) (pk : IsPart vk st) (h0 : st ≠ some 0) (hi' : IntsAre vs ns)
    (h : ∀ D ws h', Fr h₀ L h' m → News h₀ L h' ((D, listOf (List.toArray ws) 0) :: news) → (∀ p ∈ news, p.1 < D) → IntsAre ws (pickI ns lo hi st) → Q (.ref D) { s with heap := h' })
    (hs : subscripted slice false (.ref l) (.ref s.heap.objs.size) = operate ops (getItem (.ref l) (.ref s.heap.objs.size))) (ht : ∀ r, letTemporaryGo value (.ref l) r = pure ()) (hz : vs.toArray.size ≤ sizeLine) :
    wpAny (model prog w) A (subscriptTail value slice (.ref l) (.ref s.heap.objs.size)) Q E { s with heap := s.heap.push { cls := .type "slice", data := .fields #[vl, vu, vk] } } := by
  refine slice_list3 F N hl pl pu pk h0 (fun h' F' N' => h _ (slicePick vs.toArray lo hi st).toList h' F' ?_ (fun p hp => Nat.lt_succ_of_lt (Heap.lt_size (N p hp).1)) (pick_ints hi' lo hi st)) hs ht hz
  rw [Array.toArray_toList]
  exact N'
end
theorem use_join {w : World} {mean : ExcName → Option Value} {mg mb : Str → Option Value} {x y r : Str} {tx ty : Tok} (hx : x.length ≤ 10) (hy : y.length ≤ 10) (hx0 : x.length ≠ 0) (hs : Txt.startswith y (Str.ofString "/") = false) (hr : joinS x y = r)
    {A : Around} {cenv : Env} {outer : List Env} {A₀ : Around} {base h₀ : Heap} {L : Addr} {m : Str → Option Value} {s : Shared} {Q E : Value → Shared → Prop} {all : List (Addr × Obj)}
    (hzA : A.handled = none) (hA : A.frames = some (cenv :: outer)) (hcf : cenv.frame = some L) (hck : cenv.scope.kind = .function) (B : Below A₀ base outer h₀) (F : Fr h₀ L s.heap m) (X : (Kp w.params).In h₀) (N : News h₀ L s.heap all) (T : Top topProg LS mean mg mb h₀)
    (XB : (Kp w.params).In base) (TB : Top topProg LS mean mg mb base) (D : KtsDicts (outer.filterMap (·.frame)) h₀) (C : CodeHd base 47 43) (r1 : A.depth + 6 < recursionLimit) (r2 : A.units + 60 < cLine)
    (k : ∀ t h' tk' h₀', KtsTurn (outer.filterMap (·.frame)) h₀ h₀' → Below A₀ base outer h₀' → Fr h₀' L h' m → (Kp w.params).In h₀' → News h₀' L h' all → Top topProg LS mean mg mb h₀' → KtsDicts (outer.filterMap (·.frame)) h₀' → Q (.str r t) { s with heap := h', toks := tk' }) :
    wpAny (model PySem.Challenge.rw_rt0053_01.row.prog w) A (call (.ref 142) [.str x tx, .str y ty]) Q E s := by
  subst hr
  exact use_str (spec_join w mean mg mb x y tx ty hx hy hx0 hs) (fun _ => hzA) hA hcf hck B F X N T XB TB D C r1 r2 k
theorem noDicts {A : Around} {base h₀ : Heap} (_ : Below A base [] h₀) : KtsDicts (([] : List Env).filterMap (·.frame)) h₀ := fun _ h => nomatch h
theorem join_1 : joinS (Str.ofString "/") (Str.ofString "-") = Str.ofString "/-" := by decide
theorem join_2 : joinS (Str.ofString "/") (Str.ofString "b") = Str.ofString "/b" := by decide
theorem join_3 : joinS (Str.ofString "/-") (Str.ofString "-") = Str.ofString "/-/-" := by decide
theorem join_4 : joinS (Str.ofString "/-") (Str.ofString "b-") = Str.ofString "/-/b-" := by decide
theorem join_5 : joinS (Str.ofString "/b") (Str.ofString "c") = Str.ofString "/b/c" := by decide
end Mine
end
section
open PySem PySem.W PyProof.Rows PySem.Calls
namespace Mine
/-- the wishes: what is known of them -/
noncomputable def Wishes (ws : List Int) : Prop := ws.length ≤ 19 ∧ ∀ x ∈ ws, 0 ≤ x ∧ x < 54
theorem wishes_are (src : List Int) (n : List Int) (hn : src = n.take 8) : Wishes ([28, 31, 35, 39, 40, 42, 41, 25, 50, 52, 52] ++ src.map (fun a => a.fmod 54)) := by
  refine ⟨?_, ?_⟩
  · rw [List.length_append, List.length_map, hn, List.length_take]
    show 11 + min 8 n.length ≤ 19
    omega
  · intro x hx
    rcases List.mem_append.mp hx with h | h
    · have all : ∀ x ∈ ([28, 31, 35, 39, 40, 42, 41, 25, 50, 52, 52] : List Int), 0 ≤ x ∧ x < 54 := by decide
      exact all x h
    · obtain ⟨k, _, rfl⟩ := List.mem_map.mp h
      rw [conv_m _ (by decide)]
      omega
theorem wishes_of (n : List Int) : Wishes ([28, 31, 35, 39, 40, 42, 41, 25, 50, 52, 52] ++ List.map (fun a => a.fmod 54) (List.filter (fun _ => true) (List.take 8 n))) := wishes_are _ n (List.filter_eq_self.mpr fun _ _ => rfl)
theorem wishes_room (n : List Int) : ([28, 31, 35, 39, 40, 42, 41, 25, 50, 52, 52] : List Int).length + (List.map (fun a : Int => a.fmod 54) (List.filter (fun _ => true) (List.take 8 n))).length ≤ sizeLine := by
  have h := (wishes_of n).1
  rw [List.length_append] at h
  rw [sizeLine_eq]
  exact Nat.le_trans h (by decide)
theorem wishes_rev {ws : List Int} (h : Wishes ws) : Wishes ws.reverse := ⟨by rw [List.length_reverse]; exact h.1, fun x hx => h.2 x (List.mem_reverse.mp hx)⟩
theorem modes_are (f : Int → Int) (ys : List Value) (h : IntsAre ys (List.map (fun k => (f k).fmod 65536) (rangeKs 0 6))) : ∃ ms, IntsAre ys ms ∧ Modes ms := by
  refine ⟨_, h, ?_, ?_⟩
  · rw [List.length_map]; rfl
  · intro x hx
    obtain ⟨k, _, rfl⟩ := List.mem_map.mp hx
    rw [conv_m _ (by decide)]
    omega
theorem obj_off {g h : Heap} {L : Addr} {all : List (Addr × Obj)} (N : News g L h all) {p q : Addr × Obj} (hp : p ∈ all) (hq : q ∈ all) (hc : p.2.cls ≠ q.2.cls) : q.1 ≠ p.1 := fun e => by
  have h1 := (N p hp).1
  have h2 := (N q hq).1
  rw [e, h1] at h2
  exact hc (by rw [Option.some.inj h2])
noncomputable abbrev tupO (x : Str) (a b : Int) (t1 t2 t3 : Tok) (n : Nat) : Obj := { cls := .type "tuple", data := .seq #[.str x t1, .int a t2, .int b t3] n }
section
variable {w : World} {mean : ExcName → Option Value} {mg mb : Str → Option Value} {ms ws : List Int} {a b c : Addr} {vp vm vw : List Value} {np nm nw : Nat}
    {A : Around} {cenv : Env} {outer : List Env} {A₀ : Around} {base h₀ : Heap} {L : Addr} {m : Str → Option Value} {s : Shared} {Q E : Value → Shared → Prop} {all : List (Addr × Obj)}
theorem use_told (hP : StrsAre vp pathsL) (hM : IntsAre vm ms) (hW : IntsAre vw ws) (hMo : Modes ms) (hWi : Wishes ws)
    (ma : (a, listOf vp.toArray np) ∈ all) (mb' : (b, listOf vm.toArray nm) ∈ all) (mc : (c, listOf vw.toArray nw) ∈ all) (mt : (43, tabObj #[]) ∈ all)
    (hzA : A.handled = none) (hA : A.frames = some (cenv :: outer)) (hcf : cenv.frame = some L) (hck : cenv.scope.kind = .function) (B : Below A₀ base outer h₀) (F : Fr h₀ L s.heap m) (X : (Kp w.params).In h₀) (N : News h₀ L s.heap all) (T : Top topProg LS mean mg mb h₀)
    (XB : (Kp w.params).In base) (TB : Top topProg LS mean mg mb base) (D : KtsDicts (outer.filterMap (·.frame)) h₀) (C : CodeHd base 47 43) (r1 : A.depth + 8 < recursionLimit) (r2 : A.units + 100 < cLine)
    (k : ∀ (x : Str) (o p : Int) T' t1 t2 t3 n h' tk' h₀', x = (toldSt ms ws 6).2.2 → o = (toldSt ms ws 6).1.getD 0 0 → p = (toldSt ms ws 6).2.1 → KtsTurn (outer.filterMap (·.frame)) h₀ h₀' → Below A₀ base outer h₀' → Fr h₀' L h' m → (Kp w.params).In h₀' →
      News h₀' L h' ((T', tupO x o p t1 t2 t3 n) :: (a, listOf vp.toArray np) :: (b, listOf vm.toArray nm) :: (c, listOf vw.toArray nw) :: [(43, tabObj #[])]) → Top topProg LS mean mg mb h₀' → KtsDicts (outer.filterMap (·.frame)) h₀' → Q (.ref T') { s with heap := h', toks := tk' }) :
    wpAny (model PySem.Challenge.rw_rt0053_01.row.prog w) A (call (.ref 222) [.ref a, .ref b, .ref c]) Q E s := by
  refine (spec_told w mean mg mb a b c vp vm vw np nm nw ms ws hP hM hW hMo.1 hMo.2 hWi.1).use (rest := [(43, tabObj #[])]) (fun _ => hzA) hA hcf hck B F X N T XB TB D C r1 r2 ?_ ?_ ?_
  · intro p hp
    simp only [List.cons_append, List.nil_append, List.mem_cons, List.not_mem_nil, or_false] at hp
    rcases hp with rfl | rfl | rfl | rfl
    · exact ma
    · exact mb'
    · exact mc
    · exact mt
  · intro p hp q hq
    have hq' := List.mem_singleton.mp hq
    subst hq'
    have ht : TabLed [(43, tabObj #[])] := .inl rfl
    have hs : ∀ p ∈ [((43 : Addr), tabObj #[])], p ∈ all := fun p hp => by rw [List.mem_singleton.mp hp]; exact mt
    simp only [List.mem_cons, List.not_mem_nil, or_false] at hp
    rcases hp with rfl | rfl | rfl
    · exact (tab_off N ht hs ma rfl _ (.head _)).symm
    · exact (tab_off N ht hs mb' rfl _ (.head _)).symm
    · exact (tab_off N ht hs mc rfl _ (.head _)).symm
  · rintro v news' h' tk' h₀' ⟨T', t1, t2, t3, n, rfl, rfl⟩ _ a1 a2 a3 a4 a5 a6 a7
    exact k _ _ _ T' t1 t2 t3 n h' tk' h₀' rfl rfl rfl a1 a2 a3 a4 a5 a6 a7
theorem use_served {tab : List (Addr × Obj)} {T₁ : Addr} {x : Str} {o p : Int} {u1 u2 u3 : Tok} {un : Nat} (htab : TabLed tab) (hP : StrsAre vp pathsL) (hM : IntsAre vm ms) (hW : IntsAre vw ws) (hMo : Modes ms) (hWi : Wishes ws)
    (e1 : lstS (servedSt ms ws ws.length).1 = x) (e2 : (servedSt ms ws ws.length).2.1 = o) (e3 : (servedSt ms ws ws.length).2.2 = p)
    (ma : (a, listOf vp.toArray np) ∈ all) (mb' : (b, listOf vm.toArray nm) ∈ all) (mc : (c, listOf vw.toArray nw) ∈ all) (mt : ∀ p ∈ tab, p ∈ all) (mT : (T₁, tupO x o p u1 u2 u3 un) ∈ all)
    (hzA : A.handled = none) (hA : A.frames = some (cenv :: outer)) (hcf : cenv.frame = some L) (hck : cenv.scope.kind = .function) (B : Below A₀ base outer h₀) (F : Fr h₀ L s.heap m) (X : (Kp w.params).In h₀) (N : News h₀ L s.heap all) (T : Top topProg LS mean mg mb h₀)
    (XB : (Kp w.params).In base) (TB : Top topProg LS mean mg mb base) (D : KtsDicts (outer.filterMap (·.frame)) h₀) (C : CodeHd base 47 43) (r1 : A.depth + 12 < recursionLimit) (r2 : A.units + 200 < cLine)
    (k : ∀ T' t1 t2 t3 n tab' h' tk' h₀', TabLed tab' → KtsTurn (outer.filterMap (·.frame)) h₀ h₀' → Below A₀ base outer h₀' → Fr h₀' L h' m → (Kp w.params).In h₀' →
      News h₀' L h' ((T', tupO x o p t1 t2 t3 n) :: (T₁, tupO x o p u1 u2 u3 un) :: (a, listOf vp.toArray np) :: (b, listOf vm.toArray nm) :: (c, listOf vw.toArray nw) :: tab') → Top topProg LS mean mg mb h₀' → KtsDicts (outer.filterMap (·.frame)) h₀' → Q (.ref T') { s with heap := h', toks := tk' }) :
    wpAny (model PySem.Challenge.rw_rt0053_01.row.prog w) A (call (.ref 215) [.ref a, .ref b, .ref c]) Q E s := by
  refine (spec_served w mean mg mb tab htab a b c vp vm vw np nm nw ms ws hP hM hW hMo.1 hMo.2 hWi.1 hWi.2).use (rest := [(T₁, tupO x o p u1 u2 u3 un)]) (fun _ => hzA) hA hcf hck B F X N T XB TB D C r1 r2 ?_ ?_ ?_
  · intro q hq
    rcases List.mem_append.mp hq with hq | hq
    · rcases List.mem_cons.mp hq with rfl | hq
      · exact ma
      · rcases List.mem_cons.mp hq with rfl | hq
        · exact mb'
        · rcases List.mem_cons.mp hq with rfl | hq
          · exact mc
          · exact mt _ hq
    · rw [List.mem_singleton.mp hq]; exact mT
  · intro q hq r hr
    have hr' := List.mem_singleton.mp hr
    subst hr'
    rcases List.mem_cons.mp hq with rfl | hq
    · exact obj_off N ma mT (show (Value.type "list") ≠ Value.type "tuple" from by decide)
    · rcases List.mem_cons.mp hq with rfl | hq
      · exact obj_off N mb' mT (show (Value.type "list") ≠ Value.type "tuple" from by decide)
      · rcases List.mem_cons.mp hq with rfl | hq
        · exact obj_off N mc mT (show (Value.type "list") ≠ Value.type "tuple" from by decide)
        · intro z
          have h1 := (N _ (mt _ hq)).1
          have h2 := (N _ mT).1
          rw [z, h1] at h2
          have h3 : q.2.data = .seq #[.str x u1, .int o u2, .int p u3] un := by rw [Option.some.inj h2]
          rcases htab with rfl | ⟨c', oc, rfl, _, fs, t, hf, _⟩
          · obtain rfl := List.mem_singleton.mp hq
            exact absurd h3 (fun q => nomatch q)
          · rcases List.mem_cons.mp hq with rfl | hq
            · exact absurd h3 (fun q => nomatch q)
            · obtain rfl := List.mem_singleton.mp hq
              simp only [hf] at h3
              exact absurd h3 (fun q => nomatch q)
  · rintro v news' h' tk' h₀' ⟨T', t1, t2, t3, n, tab', rfl, rfl, ht'⟩ _ a1 a2 a3 a4 a5 a6 a7
    rw [e1, e2, e3] at a5
    refine k T' t1 t2 t3 n tab' h' tk' h₀' ht' a1 a2 a3 a4 (fun q hq => a5 q ?_) a6 a7
    rcases List.mem_cons.mp hq with rfl | hq
    · exact .head _
    · rcases List.mem_cons.mp hq with rfl | hq
      · exact List.mem_append_right _ (.head _)
      · exact List.mem_append_left _ (.tail _ hq)
end
end Mine
end
section
open PySem PySem.W PyProof.Rows PySem.Calls PySem.Spec
namespace Mine
theorem lst_str (ms : List Int) : PyData.strOk (lstS ms) = true := by
  have key : ∀ c ∈ cl (lstS ms), c < 0x110000 := by
    rw [lst_cl]
    have hs : ∀ k p, sc (ms.getD k 0) p < 0x110000 := fun k p => Nat.lt_trans (sc_ok _ p).2 (by decide)
    unfold lstC
    repeat' (first
      | exact List.forall_mem_nil _
      | (with_reducible refine List.forall_mem_cons.mpr ⟨?_, ?_⟩)
      | (with_reducible exact hs _ _)
      | decide)
  unfold PyData.strOk
  rw [← Array.all_toList, List.all_eq_true]
  intro c hc
  exact decide_eq_true (key c hc)
section
variable {prog : Program} {w : World} {A : Around} {E : Value → Shared → Prop} {s : Shared} {h₀ : Heap} {L : Addr} {m : Str → Option Value} {all : List (Addr × Obj)} {Q : Value → Shared → Prop} {T₁ T₂ : Addr} {x : Str} {o p : Int} {t1 t2 t3 u1 u2 u3 : Tok} {n k : Nat}
theorem tup_reads (N : News h₀ L s.heap all) (mem : (T₁, tupO x o p t1 t2 t3 n) ∈ all) : Reads s.heap (.ref T₁) (.tuple [.str x, .int o, .int p]) [] :=
  reads_tuple_at (N _ mem).1 rfl rfl (readsAll_cons_val (Reads.str _ _) (readsAll_cons_val (Reads.int _ _) (readsAll_cons_val (Reads.int _ _) ReadsAll.nil)))
theorem tup_shaped (hx : PyData.strOk x = true) : SeqAt.shaped (.tuple [.str x, .int o, .int p]) = true := by
  simp [SeqAt.shaped, PyData.canLay0, PyData.canLayAll0, PyData.depth, PyData.depthAll, hx]
theorem tup_eqv : PyData.eqv (.tuple [.str x, .int o, .int p]) (.tuple [.str x, .int o, .int p]) = true := by
  simp [PyData.eqv, PyData.eqvAll]
theorem tup_ne (N : News h₀ L s.heap all) (m1 : (T₁, tupO x o p t1 t2 t3 n) ∈ all) (m2 : (T₂, tupO x o p u1 u2 u3 k) ∈ all) (hx : PyData.strOk x = true) (hu : A.units + 64 < cLine) (h : Q (.bool false) s) : wpAny (model prog w) A (compareOp .NotEq (.ref T₁) (.ref T₂)) Q E s := by
  refine ne_dataH (tup_reads N m1) (tup_reads N m2) (tup_shaped hx) (tup_shaped hx) hu ?_
  rw [tup_eqv]
  exact h
theorem tup_eq (N : News h₀ L s.heap all) (m1 : (T₁, tupO x o p t1 t2 t3 n) ∈ all) (m2 : (T₂, tupO x o p u1 u2 u3 k) ∈ all) (hx : PyData.strOk x = true) (hu : A.units + 64 < cLine) (h : Q (.bool true) s) : wpAny (model prog w) A (compareOp .Eq (.ref T₁) (.ref T₂)) Q E s := by
  refine eq_dataH (tup_reads N m1) (tup_reads N m2) (tup_shaped hx) (tup_shaped hx) hu ?_
  rw [tup_eqv]
  exact h
end
/-- the code's table has grown at most -/
theorem grown_tab {h₀ h : Heap} {L : Addr} {all tab : List (Addr × Obj)} (ht : TabLed tab) (N : News h₀ L h all) (hs : ∀ q ∈ tab, q ∈ all) : GrownAll [(47, 43)] h := by
  refine ⟨?_, True.intro⟩
  rcases ht with rfl | ⟨c, oc, rfl, _⟩
  · exact GrownAt.of N (hs _ (.head _))
  · exact GrownAt.of (ps := (#[] ++ #[rawInt ↑21, rawInt ↑4, .ref c])) N (hs _ (.head _))
/-- the law came back with True -/
theorem good_end {cl : Str → Option Addr} {mean : ExcName → Option Value} {args : List WData} {s₁ s' : Shared} {A : Around} {outer : List Env} {g : Heap} {L : Addr} {m : Str → Option Value} (B : Below A s₁.heap outer g) (F : Fr g L s'.heap m) (hg : s'.gens = #[]) (hos : s'.os = s₁.os) :
    GoodW PySem.Challenge.rw_rt0053_01.row.toRowW.claim cl mean args s₁ (.ok (.ret (.bool true))) s' :=
  ⟨.inl ⟨_, .bool true, [], rfl, fun _ => rfl, ReadsW.bool true, postW_of (by wrow_shape) (by wtm_val) (by w_fin), fun _ => ⟨List.nodup_nil, fun _ h => nomatch h⟩⟩, fun b o e => F.keep b o (B.stays b o e), hos, hg⟩
theorem ns_sum (P : Params) : nsIn (Kp P) mainGlobals (Str.ofString "sum") = some none := by kernel_rfl
theorem said_ok : PySem.Challenge.rw_rt0053_01.wellSaid = true := by
  first | (rewrite [PySem.W.Fast.te9446332074065402090]; kernel_rfl) | kernel_rfl
end Mine
end
theorem Mine.lines_g : True := by
  k_with_none
  (k_with "call builtin:issubclass" =>
    (k_here; (with_reducible show wpAny _ _ (call (Value.builtin "issubclass") [Value.type "str", Value.ref _]) _ _ _); k_dflt (refine' Mine.kz_issub ?wyN ?wym ?_; (case wyN => k_asm); (case wym => k_mem); k_whole)))
  (k_with "call type:frozenset" =>
    (k_here; k_dflt (first
  | (refine' Mine.kz_fz0 ?wyF ?wyN ?_; (case wyF => k_asm); (case wyN => k_asm); k_whole; intro wyD' wyh' wyo' wyF' wyN' wyhz' wyl1; (try k_lt wyl1); (try k_sweep))
  | (refine' Mine.kz_fz1 ?wyF ?wyN ?wyhh ?wyh1 ?_; (case wyF => k_asm); (case wyN => k_asm); (case wyhh => exact rfl); (case wyh1 => decide); k_whole; intro wyD' wyh' wytk' wyo' wyF' wyN' wyhz' wyl1; (try k_lt wyl1); (try k_sweep)))))
  (k_with "call builtin:frozenset.isdisjoint" =>
    (k_here; k_dflt (refine' Mine.kz_dis ?wyF ?wyN ?wyhh ?wym ?wyS ?_; (case wyF => k_asm); (case wyN => k_asm); (case wyhh => exact rfl); (case wyS => assumption); (case wym => k_mem); k_whole; intro wyh' wytk' wyF' wyN'; (try k_sweep))))
  (k_with "getMethod ref" =>
    (k_here; k_dflt (refine' Mine.kz_method ?wyN ?wym ?wyS ?_; (case wyN => k_asm); (case wyS => assumption); (case wym => k_mem); k_whole)))
  (k_with "compareOp NotIn str ref" =>
    (k_here; k_dflt (refine' Mine.kz_notIn ?wyN ?wym ?wyS ?_; (case wyN => k_asm); (case wyS => assumption); (case wym => k_mem); k_whole)))
  (k_with "call ref" =>
    (k_here; refine wpAny_call ?_; k_dflt (refine' code_def ?wyk1 ?wyk2 ?wyk3 ?wyk4 ?wyk5 ?wykA ?wykF ?wykK ?wyk6 ?wyk7 ?wyk8 ?wyk9 ?wykB ?_ ?wyc2 ?wyc3 ?wyc4 ?wyc5; (case wykA => exact rfl); (case wykF => exact rfl); (case wykK => first | exact rfl | assumption); (case wyk1 => k_asm); (case wyk2 => k_asm); (case wyk3 => k_asm); (case wyk4 => k_asm); (case wyk5 => k_asm); (case wyk6 => refine' Mine.ho_lit ?wyh6 ?wyp6 ?wyb6 ?wys6; (case wyh6 => k_is); (case wyp6 => ((conv => lhs; whnf); try exact rfl)); (case wyb6 => ((conv => lhs; whnf); try exact rfl)); (case wys6 => ((conv => lhs; whnf); try exact rfl))); (case wyk7 => k_is); (case wyk8 => ktr_room); (case wyk9 => exact BindsTo.of_eq rfl); (case wyc5 => decide); (case wykB => exact locs rfl); (case wyc2 => exact rfl); (case wyc3 => exact rfl); (case wyc4 => exact rfl); k_whole; intro wyg' wyL' wyh' wyFG' wyF' wyN' wyB' wyX' wyT'; (try dsimp only); (try k_lift wyB'); (try k_fold))))
  (k_with "call ref" =>
    (k_here; refine wpAny_call ?_; k_dflt (refine' code_nest ?wyk1 ?wyk2 ?wyk3 ?wyk4 ?wyk5 ?wykA ?wykF ?wykK ?wyk6 ?wyk7 ?wyk8 ?wyk9 ?wykB ?_ ?wyc2 ?wyc3 ?wyc4 ?wyc5; (case wykA => exact rfl); (case wykF => exact rfl); (case wykK => exact rfl); (case wyk1 => k_asm); (case wyk2 => k_asm); (case wyk3 => k_asm); (case wyk4 => k_asm); (case wyk5 => k_asm); (case wyk6 => k_mem); (case wyk7 => first | exact codeRec_news (by k_asm) (by k_mem) (by assumption) (by assumption) | exact codeRec_news (by k_asm) (by k_mem) (by assumption) (Mine.cq_eq (by assumption) (by first | rfl | kernel_rfl))); (case wyk8 => ktr_room); (case wyk9 => exact BindsTo.of_eq rfl); (case wyc5 => decide); (case wykB => exact locs rfl); (case wyc2 => exact rfl); (case wyc3 => exact rfl); (case wyc4 => exact rfl); k_whole; intro wyg' wyL' wyh' wyFG' wyF' wyN' wyB' wyX' wyT'; (try dsimp only); (try k_lift wyB'); (try k_fold))))
  (k_with "call builtin:str.index" =>
    (k_here; (with_reducible show wpAny _ _ (call (Value.builtin _) [Value.str _ _, Value.str _ _, Value.int _ _]) _ _ _); k_dflt (first | (refine' Mine.kz_index3_hit ?wyh ?_; (case wyh => assumption); k_whole) | (refine' Mine.kz_index3 ?wyhA ?_ ?_; (case wyhA => exact rfl); all_goals intros))))
  (k_with "call builtin:str.count" =>
    (k_here; (with_reducible show wpAny _ _ (call (Value.builtin _) [Value.str _ _, Value.str _ _, Value.int _ _, Value.int _ _]) _ _ _); k_dflt (refine' Mine.kz_count4 ?_; k_whole; intro wyhc1' wyhc2')))
  (k_with "call builtin:str.rindex" =>
    (k_here; (with_reducible show wpAny _ _ (call (Value.builtin _) [Value.str _ _, Value.str _ _, Value.int _ _, Value.int _ _]) _ _ _); k_dflt (refine' Mine.kz_rindex4 ?wyh ?wyhj ?_; (case wyh => first | assumption | omega); (case wyhj => omega); k_whole; intro wyrk' wyhrk')))
  (k_with "call ref" =>
    (k_here; (with_reducible show wpAny _ _ (call (Value.ref 41) _ _) _ _ _); refine wpAny_call ?_; k_dflt (refine' Mine.kx_def0 ?wycf ?wyck ?wyk1 ?wyk2 ?wyk3 ?wyk4 ?wyk5 ?wyXB ?wyTB ?wyD ?wykA ?wyk6 ?wyk7 ?wyk8 ?wyk9 ?wykB ?_ ?wyc2 ?wyc3 ?wyc4 ?wyc5; (case wykA => exact rfl); (case wycf => exact rfl); (case wyck => first | exact rfl | assumption); (case wyk1 => k_asm); (case wyk2 => k_asm); (case wyk3 => k_asm); (case wyk4 => k_asm); (case wyk5 => k_asm); (case wyXB => assumption); (case wyTB => assumption); (case wyD => assumption); (case wyk6 => refine' Mine.ho_lit ?wyh6 ?wyp6 ?wyb6 ?wys6; (case wyh6 => k_is); (case wyp6 => ((conv => lhs; whnf); try exact rfl)); (case wyb6 => ((conv => lhs; whnf); try exact rfl)); (case wys6 => ((conv => lhs; whnf); try exact rfl))); (case wyk7 => k_is); (case wyk8 => ktr_room); (case wyk9 => exact BindsTo.of_eq rfl); (case wyc5 => decide); (case wykB => exact locs rfl); (case wyc2 => exact rfl); (case wyc3 => exact rfl); (case wyc4 => exact rfl); k_whole; intro wyg' wyL' wyh' wyFG' wyF' wyN' wyB' wyX' wyT' wyD'; (try dsimp only); (try k_lift wyB'); (try k_fold))))
  (k_with "call ref" =>
    (k_here; (with_reducible show wpAny _ _ (call (Value.ref 31) _ _) _ _ _); k_dflt (refine' Mine.kx_new (C := 31) (x := "TOMLDecodeError") ?wyF ?wyN (own_of_in ?wyX ?wyT ?wye ?wyq) PySem.F.excBase_ValueError ?_; (case wyF => k_asm); (case wyN => k_asm); (case wyX => k_asm); (case wyT => k_asm); (case wye => k_is); (case wyq => k_exc); k_whole); intro wyxe' wyxt' wyh' wyF' wyN' wyxne' wyxoff' wyxoft'; (try k_sweep)))
  (k_with "exec Raise some none" =>
    (k_here; (with_reducible show wpAny _ _ (exec (Stmt.Raise (some (Expr.Call (Expr.Name ("suffixed_err" : Str) _) _ _ _)) none _) _) _ _ _); k_dflt (refine' Mine.kx_raiseB (C := 31) (x := "TOMLDecodeError") ?wyK (own_of_in ?wyX ?wyT ?wye ?wyq) PySem.F.excBase_ValueError ?wyhh ?_; (case wyK => assumption); (case wyX => assumption); (case wyT => exact topRead_of (by assumption)); (case wye => k_is); (case wyq => k_exc); (case wyhh => exact rfl); k_whole)))
  (k_with "exec Raise some some" =>
    (k_here; k_dflt (refine' Mine.kx_raiseFromB (C := 31) (x := "TOMLDecodeError") ?wyK (own_of_in ?wyX ?wyT ?wye ?wyq) PySem.F.excBase_ValueError ?wyhh ?_; (case wyK => assumption); (case wyX => assumption); (case wyT => exact topRead_of (by assumption)); (case wye => k_is); (case wyq => k_exc); (case wyhh => exact rfl); k_whole)))
  (k_with "noteFrame ref" =>
    (k_here; (with_reducible rename Heap.NewExc _ _ _ _ => wynxX); (with_reducible rename KtsDicts _ _ => wykdX); k_dflt (refine' Mine.kx_catch ?wyK ?wyF ?wyN wynxX ?wyXB ?wyTB ?wyD ?wyex ?wyhk ?wyhx ?_ ?wyhE; (case wyK => assumption); (case wyF => k_asm); (case wyN => k_asm); (case wyXB => assumption); (case wyTB => assumption); (case wyD => assumption); (case wyex => k_is); (case wyhk => exact rfl); (case wyhx => exact rfl); (case wyhE => passes_own); k_whole); intro wyh' wyg' wyoe' wynT' wynoT' wynvs' wyT' wyF' wyN' wyK' wyX' wyP' wyD' wynd' wynv' wynne' wynof1' wynof2'; clear wynxX; (try k_lift wyK'); (try k_sweep)))
  (k_with "RaiseQ" =>
    (k_dflt (refine' Mine.RaiseQ.intro ?wyB ?wyF ?wyN ?_; (case wyF => k_asm); (case wyN => k_asm); (case wyB => assumption); k_whole)))
  (k_with "RaiseF" =>
    (k_dflt (refine' Mine.RaiseF.intro ?wyB ?wyF ?wyN ?wyhne ?wyhm ?wyhd ?wyh2 ?_; (case wyF => k_asm); (case wyN => k_asm); (case wyB => assumption); (case wyhm => k_mem); (case wyhd => assumption); (case wyh2 => assumption); (case wyhne => (intro q hq; rcases List.mem_cons.mp hq with hz | hz; (rw [hz]; exact Ne.symm (by assumption)); (exact (by assumption : ∀ q ∈ _, q.1 ≠ _) q hz))); k_whole); intro wyh' wyF' wyN'; (try k_sweep)))
  (k_with "leaving ref" =>
    (k_here; (with_reducible rename KtsDicts _ _ => wykdX); k_dflt (first
  | (refine' Mine.kx_leaveN ?wyK ?wyF ?wyN ?wyT0 ?wyhk ?wyhne ?_; (case wyK => assumption); (case wyF => k_asm); (case wyN => k_asm); (case wyT0 => first | (refine' KtsTurn.trans ?wyta ?wytb; (case wytb => assumption); (case wyta => assumption)) | assumption | exact KtsTurn.refl); (case wyhk => exact rfl); (case wyhne => (intro q hq; rcases List.mem_cons.mp hq with hz | hz; (rw [hz]; exact Ne.symm (by assumption)); (exact (by assumption : ∀ q ∈ _, q.1 ≠ _) q hz))); k_whole)
  | (refine' Mine.kx_leaveF ?wyK ?wyF ?wyN ?wyT0 ?wyhk ?wyhne ?_; (case wyK => assumption); (case wyF => k_asm); (case wyN => k_asm); (case wyT0 => first | (refine' KtsTurn.trans ?wyta ?wytb; (case wytb => assumption); (case wyta => assumption)) | assumption | exact KtsTurn.refl); (case wyhk => exact rfl); (case wyhne => (intro q hq; rcases List.mem_cons.mp hq with hz | hz; (rw [hz]; exact Ne.symm (by assumption)); (exact (by assumption : ∀ q ∈ _, q.1 ≠ _) q hz))); k_whole)); intro wyh' wyR' wyU'; (try dsimp only at wyR' wyU' ⊢)))
  (k_with "exec While Compare" =>
    (k_here; (with_reducible rename (Mine.freeOf _ _ = false) => wyhfr'); k_dflt (refine' Mine.kx_skipS (i := "pos") wyhfr' ?wyF ?wyN ?wyhm ?wyb0 ?wyb1 ?wyb2 ?_; (case wyF => k_asm); (case wyN => k_asm); (case wyhm => exact rfl); (case wyb0 => omega); (case wyb1 => omega); (case wyb2 => omega); k_whole); intros))
  (k_with "SkipB" =>
    (refine Mine.SkipB.intro ?_ ?_; all_goals intro wyhb'))
  (k_with "pyReprObj str" =>
    (k_here; k_dflt (refine' pyReprObj_str ?_ ?wyhx; (case wyhx => first | (with_reducible exact Mine.repr_dash) | (refine Mine.repr_item ?_ (by omega) (by omega); assumption)); k_whole)))
  (k_with "And" =>
    ((with_reducible show PySem.Str.length (_ ++ _) ≤ sizeLine ∧ wpAny _ _ (joinParts _ _) _ _ _); (refine And.intro ?wyc ?_; (case wyc => ((with_reducible refine Mine.FitK.top ?_); (repeat' (first | (with_reducible refine Mine.FitK.app ?_ ?_) | (with_reducible refine Mine.FitK.base ?_) | (first | omega | (decide +kernel) | ((with_reducible refine Mine.FitN.top ?_); (repeat' (first | (with_reducible refine Mine.FitN.app ?_ ?_) | (with_reducible refine Mine.FitN.base ?_) | (first | omega | (decide +kernel) | (refine Mine.num_fits (by omega) (by omega)) | (refine Nat.le_trans (Mine.repr_item12 (by assumption) (by omega) (by omega)) (by decide))))))))))); k_whole)))
  (k_with "joinParts" =>
    (k_here; (with_reducible show wpAny _ _ (joinParts _ (evalEach [] _)) _ _ _); k_dflt (refine' joinParts_nil ?_ ?wyhsz; (case wyhsz => ((with_reducible refine Mine.FitK.top ?_); (repeat' (first | (with_reducible refine Mine.FitK.app ?_ ?_) | (with_reducible refine Mine.FitK.base ?_) | (first | omega | (decide +kernel) | ((with_reducible refine Mine.FitN.top ?_); (repeat' (first | (with_reducible refine Mine.FitN.app ?_ ?_) | (with_reducible refine Mine.FitN.base ?_) | (first | omega | (decide +kernel) | (refine Mine.num_fits (by omega) (by omega)) | (refine Nat.le_trans (Mine.repr_item12 (by assumption) (by omega) (by omega)) (by decide))))))))))); k_whole)))
  (k_with "le" =>
    ((with_reducible refine Mine.FitK.top ?_); (repeat' (first | (with_reducible refine Mine.FitK.app ?_ ?_) | (with_reducible refine Mine.FitK.base ?_) | (first | omega | (decide +kernel) | ((with_reducible refine Mine.FitN.top ?_); (repeat' (first | (with_reducible refine Mine.FitN.app ?_ ?_) | (with_reducible refine Mine.FitN.base ?_) | (first | omega | (decide +kernel) | (refine Mine.num_fits (by omega) (by omega)) | (refine Nat.le_trans (Mine.repr_item12 (by assumption) (by omega) (by omega)) (by decide)))))))))))
  (k_with "call ref" =>
    (k_here; (with_reducible show wpAny _ _ (call (Value.ref 48) _ _) _ _ _); k_dflt (refine' Mine.kx_sfx0 ?wyA ?wycf ?wyck ?wyB ?wyF ?wyX ?wyN ?wyT ?wyXB ?wyTB ?wyD ?wyC ?wyr1 ?wyr2 ?wyht ?wyhx ?wyhp ?wyhp1 ?wyhy ?wyhs ?_; (case wyA => exact rfl); (case wycf => first | exact rfl | assumption); (case wyck => first | exact rfl | assumption); (case wyB => k_asm); (case wyF => k_asm); (case wyX => k_asm); (case wyN => k_asm); (case wyT => k_asm); (case wyXB => assumption); (case wyTB => assumption); (case wyD => assumption); (case wyC => assumption); (case wyr1 => first | ktr_room | (simp only [Around.mark, Around.deeper]; omega)); (case wyr2 => first | ktr_room | (simp only [Around.mark, Around.deeper]; omega)); (case wyht => assumption); (case wyhx => assumption); (case wyhp => omega); (case wyhp1 => omega); (case wyhy => first | (with_reducible assumption) | (with_reducible exact Mine.msg1) | (refine Mine.msg2 ?_ (by omega) (by omega); assumption)); (case wyhs => intro p hp; simp only [List.mem_cons]; (repeat (first | exact hp | refine Or.inr ?_))); k_whole); intro wye' wyt' wytv' wytab' wyh' wytk' wyg' wyht' wyhoff' wyhne' wyT' wyB' wyF' wyX' wyN' wyP' wyD'; (try dsimp only); (try k_lift wyB'); (try k_sweep)))
  (k_with "call ref" =>
    (k_here; (with_reducible show wpAny _ _ (call (Value.ref 48) _ _) _ _ _); k_dflt (refine' Mine.kx_sfx1 ?wyhh ?wyA ?wycf ?wyck ?wyB ?wyF ?wyX ?wyN ?wyT ?wyXB ?wyTB ?wyD ?wyC ?wyr1 ?wyr2 ?wyht ?wyhx ?wyhp ?wyhp1 ?wyhy ?wyhs ?wyme ?wyho ?_; (case wyhh => exact rfl); (case wyA => exact rfl); (case wycf => first | exact rfl | assumption); (case wyck => first | exact rfl | assumption); (case wyB => k_asm); (case wyF => k_asm); (case wyX => k_asm); (case wyN => k_asm); (case wyT => k_asm); (case wyXB => assumption); (case wyTB => assumption); (case wyD => assumption); (case wyC => assumption); (case wyr1 => first | ktr_room | (simp only [Around.mark, Around.deeper]; omega)); (case wyr2 => first | ktr_room | (simp only [Around.mark, Around.deeper]; omega)); (case wyht => assumption); (case wyhx => assumption); (case wyhp => omega); (case wyhp1 => omega); (case wyhy => first | (with_reducible assumption) | (with_reducible exact Mine.msg1) | (refine Mine.msg2 ?_ (by omega) (by omega); assumption)); (case wyhs => intro p hp; simp only [List.mem_cons]; (repeat (first | exact hp | refine Or.inr ?_))); (case wyme => k_mem); (case wyho => (intro q hq; exact (by assumption : ∀ q ∈ _, q.1 ≠ _) q (by simp only [List.mem_cons]; (repeat (first | exact hq | refine Or.inr ?_))))); k_whole); intro wye' wyt' wytv' wytab' wyh' wytk' wyg' wyht' wyhoff' wyhne' wyT' wyB' wyF' wyX' wyN' wyP' wyD'; (try dsimp only); (try k_lift wyB'); (try k_sweep)))
  (k_with "formatField str" =>
    (k_here; k_dflt (refine' formatField_str ?_ ?wyhsz; (case wyhsz => first | (with_reducible exact Mine.repr_dash) | (refine Mine.repr_item ?_ (by omega) (by omega); assumption)); k_whole); intro _ _))
  (k_with "call builtin:list.append" =>
    (k_here; (with_reducible show wpAny _ _ (call (Value.builtin _) [Value.ref _, _]) _ _ _); k_dflt (refine' append_K ?wyk1 ?wyk2 ?wyk3 ?_ ?wyz; (case wyk1 => k_asm); (case wyk2 => k_asm); (case wyk3 => k_upd); (case wyz => rw [sizeLine_eq]; simp only [List.size_toArray]; omega); k_whole); intro wyh' wyF' wyN'; (try k_sweep)))
  (k_with "subscriptTail Name Slice ref ref" =>
    (k_here; (with_reducible show wpAny _ _ (subscriptTail _ (PySem.Expr.Slice (some _) (some _) (some _) _) (Value.ref _) (Value.ref _)) _ _ _); k_dflt (refine' Mine.slice_step ?wyF ?wyN ?wyl ?wyp ?wyq ?wyk ?wyo ?wyi ?_ ?wys ?wyt ?wyz; (case wyF => k_asm); (case wyN => k_asm); (case wyl => kmk_list); (case wyp => kmk_part); (case wyq => kmk_part); (case wyk => kmk_part); (case wyo => decide); (case wyi => l_ints); (case wys => with_unfolding_all rfl); (case wyt => kmk_pure); (case wyz => kmk_size); k_whole); intro wyD' wyws' wyh' wyF' wyN' wyl1 wyhI'; (try k_lt wyl1); (try k_sweep)))
  (k_with "call ref" =>
    (k_here; (with_reducible show wpAny _ _ (call (Value.ref 142) [Value.str _ _, Value.str _ _] _) _ _ _); k_dflt (refine' Mine.use_join ?wya ?wyb ?wyc ?wyd ?wye ?wyhz ?wyA ?wycf ?wyck ?wyB ?wyF ?wyX ?wyN ?wyT ?wyXB ?wyTB ?wyD ?wyC ?wyr1 ?wyr2 ?_; (case wyhz => exact rfl); (case wyA => exact rfl); (case wycf => first | exact rfl | assumption); (case wyck => first | exact rfl | assumption); (case wyB => k_asm); (case wyF => k_asm); (case wyX => k_asm); (case wyN => k_asm); (case wyT => k_asm); (case wyXB => assumption); (case wyTB => assumption); (case wyD => assumption); (case wyC => assumption); (case wyr1 => first | ktr_room | (simp only [Around.mark, Around.deeper]; omega) | exact Nat.le_of_ble_eq_true rfl); (case wyr2 => first | ktr_room | (simp only [Around.mark, Around.deeper]; omega) | exact Nat.le_of_ble_eq_true rfl); (case wya => decide); (case wyb => decide); (case wyc => decide); (case wyd => decide); (case wye => first | exact Mine.join_1 | exact Mine.join_2 | exact Mine.join_3 | exact Mine.join_4 | exact Mine.join_5); k_whole); intro wyt' wyh' wytk' wyg' wyTu' wyB' wyF' wyX' wyN' wyT' wyD'; (try dsimp only); (try k_lift wyB'); (try k_sweep)))
  (k_with "call ref" =>
    (k_here; (with_reducible show wpAny _ _ (call (Value.ref 222) [Value.ref _, Value.ref _, Value.ref _] _) _ _ _); (refine Mine.stopHere ?_)))
  (k_with "call ref" =>
    (k_here; (with_reducible show wpAny _ _ (call (Value.ref 215) [Value.ref _, Value.ref _, Value.ref _] _) _ _ _); (refine Mine.stopHere ?_)))
  (k_with "binaryOp Add ref ref" =>
    (k_here; (refine Mine.stopHere ?_)))
  (k_with "compareOp NotEq ref ref" =>
    (k_here; k_dflt (refine' Mine.tup_ne ?wyN ?wym1 ?wym2 ?wyx ?wyu ?_; (case wyN => k_asm); (case wym1 => k_mem); (case wym2 => k_mem); (case wyx => assumption); (case wyu => exact Nat.le_of_ble_eq_true rfl); k_whole)))
  (k_with "compareOp Eq ref ref" =>
    (k_here; k_dflt (refine' Mine.tup_eq ?wyN ?wym1 ?wym2 ?wyx ?wyu ?_; (case wyN => k_asm); (case wym1 => k_mem); (case wym2 => k_mem); (case wyx => assumption); (case wyu => exact Nat.le_of_ble_eq_true rfl); k_whole)))
  (k_with "subscriptTail Name Slice ref ref" =>
    (k_here; (with_reducible show wpAny _ _ (subscriptTail _ (PySem.Expr.Slice none none (some _) _) (Value.ref _) (Value.ref _)) _ _ _); (refine Mine.stopHere ?_)))
  (k_with "GrownAll" =>
    (refine Mine.stopHere ?_))
  (k_with "GoodW cons ok" =>
    (refine Mine.stopHere ?_))
  (k_with "eval Name" =>
    (k_here; (with_reducible show wpAny _ _ (eval (Expr.Name (Str.ofString "sum") _) (compEnvC _ _ _ _)) _ _ _); k_dflt (refine LCgL.ld_built (by k_asm) (by k_asm) (by k_asm) (Mine.ns_sum _) (by boot_by_name) (by decide) ?_)))
  trivial
section
namespace Mine
theorem law_holds : PySem.Challenge.rw_rt0053_01.Holds := by
  w_on
  refine holds_law said_ok fun said => ?_
  refine' holds_open (q := vw) (loose := [Str.ofString "_filemode_table"]) (Xt := fun s => xlAt vw lvT s && recOk (RowW.records PySem.Challenge.rw_rt0053_01.row.toRowW) s) (XP := XL vw lvT) (Yf := Hook.obs (kmHook Kp asK (fun _ => by kernel_rfl) [43])) (Ya := Hook.val (kmHook Kp asK (fun _ => by kernel_rfl) [43])) (YP := Hook.says (kmHook Kp asK (fun _ => by kernel_rfl) [43])) (N := 3424) left_run (Hook.of _) (Hook.keeps _) (fun s e => xl_of s (Bool.and_eq_true_iff.mp e).1) XL.keeps ?hdef ?hp ?hk (fun s e => recFacts_of (Bool.and_eq_true_iff.mp e).2) (by rfl) (by first | assumption | decide +kernel) (by decide +kernel) ⟨rfl, rfl, rfl, rfl, rfl, by decide +kernel⟩ ?hw ?hc
  case hdef =>
    refine' def_lit ?h6 ?p6 ?b6 ?s6
    case h6 => exact rfl
    case p6 => ((conv => lhs; whnf); try exact rfl)
    case b6 => ((conv => lhs; whnf); try exact rfl)
    case s6 => ((conv => lhs; whnf); try exact rfl)
  case hp => rfl
  case hk => rfl
  case hw => exact ⟨[WData.list []], by decide +kernel, by decide +kernel⟩
  k_go0
  (with_reducible rename Below _ _ [] _ => hB0)
  have hD0 := Mine.noDicts hB0
  all_goals try k_fold
  repeat' (first | (k_unfold; (try dsimp only)) | walk1 | (dsimp only; walk1) | (leave1; walk_say "STEP leave1"; try dsimp only) | fail "no step")
  unfold Mine.StopHere
  rename (CarriedAll _ _) => hCA
  have hw8 := CarriedAll.intsOf hCA
  rename (Heap.IsList _ _ _) => hLw
  (with_reducible rename (News _ _ _ (_ :: (_, W.listOf #[Value.int 28 _, _, _, _, _, _, _, _, _, _, _] _) :: _)) => nW)
  k_dflt (refine' kmk_add_ints ?lwF nW ?lwA hLw ?lwI hw8 ?_ ?lwZ)
  case lwF => k_asm
  case lwA => kmk_list
  case lwI => l_ints
  case lwZ => exact wishes_room _
  intro Dw uw hw' Fw Nw lw Iw
  obtain ⟨ws, hWs, hWi⟩ : ∃ ws, IntsAre uw ws ∧ Wishes ws := ⟨_, Iw, wishes_of _⟩
  clear Iw hw8 hCA hLw nW
  (with_reducible rename (IntsAre _ (List.map _ (rangeKs _ _))) => hI8)
  obtain ⟨ms, hMs, hMo⟩ := modes_are _ _ hI8
  clear hI8
  (try k_lt lw)
  repeat' (first | (k_unfold; (try dsimp only)) | walk1 | (dsimp only; walk1) | (leave1; walk_say "STEP leave1"; try dsimp only) | fail "no step")
  unfold Mine.StopHere
  (with_reducible rename (News _ _ _ _) => nT)
  (with_reducible rename (Fr _ _ _ _) => fT)
  k_dflt (refine' use_told (ms := ms) (ws := ws) ?lP hMs hWs hMo hWi ?l1 ?l2 ?l3 ?l4 ?lz ?lA ?lcf ?lck ?lB fT ?lX nT ?lT ?lXB ?lTB ?lD ?lC ?lr1 ?lr2 ?lk)
  case l1 => k_mem
  case l2 => k_mem
  case l3 => k_mem
  case l4 => k_mem
  case lP => exact .cons _ _ (.cons _ _ (.cons _ _ (.cons _ _ (.cons _ _ (.cons _ _ .nil)))))
  case lz => exact rfl
  case lA => exact rfl
  case lcf => exact rfl
  case lck => exact rfl
  case lB => k_asm
  case lX => k_asm
  case lT => k_asm
  case lXB => assumption
  case lTB => assumption
  case lD => assumption
  case lC => assumption
  case lr1 => exact Nat.le_of_ble_eq_true rfl
  case lr2 => exact Nat.le_of_ble_eq_true rfl
  case lk =>
    intro X o p T1 t1 t2 t3 n hT tkT gT eX eo ep TuT BT FT XT NT TT DT
    (try k_lift BT)
    clear nT fT
    repeat' (first | (k_unfold; (try dsimp only)) | walk1 | (dsimp only; walk1) | (leave1; walk_say "STEP leave1"; try dsimp only) | fail "no step")
    unfold Mine.StopHere
    (with_reducible rename (News _ _ _ _) => nT)
    (with_reducible rename (Fr _ _ _ _) => fT)
    k_dflt (refine' use_served (ms := ms) (ws := ws) (tab := [(43, tabObj #[])]) (x := X) (o := o) (p := p) (.inl rfl) ?qP hMs hWs hMo hWi ((law_eq hMo hWi.2).1.trans eX.symm) ((law_eq hMo hWi.2).2.1.trans eo.symm) ((law_eq hMo hWi.2).2.2.trans ep.symm) ?q1 ?q2 ?q3 ?q4 ?q5 ?qz ?qA ?qcf ?qck ?qB fT ?qX nT ?qT ?qXB ?qTB ?qD ?qC ?qr1 ?qr2 ?qk)
    case q5 => k_mem
    case q1 => k_mem
    case q2 => k_mem
    case q3 => k_mem
    case q4 => exact fun q hq => .tail _ (.tail _ (.tail _ (.tail _ hq)))
    case qP => exact .cons _ _ (.cons _ _ (.cons _ _ (.cons _ _ (.cons _ _ (.cons _ _ .nil)))))
    case qz => exact rfl
    case qA => exact rfl
    case qcf => exact rfl
    case qck => exact rfl
    case qB => k_asm
    case qX => k_asm
    case qT => k_asm
    case qXB => assumption
    case qTB => assumption
    case qD => assumption
    case qC => assumption
    case qr1 => exact Nat.le_of_ble_eq_true rfl
    case qr2 => exact Nat.le_of_ble_eq_true rfl
    case qk =>
      clear nT fT
      intro T2 v1 v2 v3 n2 tab2 h2 tk2 g2 ht2 Tu2 B2 F2 X2 N2 Tp2 D2
      have hXs : PyData.strOk X = true := by rw [← (law_eq hMo hWi.2).1.trans eX.symm]; exact lst_str _
      (try k_lift B2)
      repeat' (first | (k_unfold; (try dsimp only)) | walk1 | (dsimp only; walk1) | (leave1; walk_say "STEP leave1"; try dsimp only) | fail "no step")
      unfold Mine.StopHere
      (with_reducible rename (News _ _ _ _) => nT)
      (with_reducible rename (Fr _ _ _ _) => fT)
      k_dflt (refine' krv_ints (vs := uw) (ns := ws) fT nT ?sl ?sk hWs ?_ ?ss ?st ?sz)
      case sl => exact News.isList nT (.tail _ (.tail _ (.tail _ (.tail _ (.head _)))))
      case sk => exact IsPart.int _ _
      case ss => with_unfolding_all rfl
      case st => kmk_pure
      case sz =>
        rw [List.size_toArray, hWs.length, sizeLine_eq]
        exact Nat.le_trans hWi.1 (by decide)
      intro Dr ur hr Fr' Nr lr Ir _
      clear nT fT
      (try k_lt lr)
      repeat' (first | (k_unfold; (try dsimp only)) | walk1 | (dsimp only; walk1) | (leave1; walk_say "STEP leave1"; try dsimp only) | fail "no step")
      unfold Mine.StopHere
      (with_reducible rename (News _ _ _ _) => nT)
      (with_reducible rename (Fr _ _ _ _) => fT)
      have hWr : Wishes ws.reverse := wishes_rev hWi
      have eR := law_eq_rev hMo hWi.2
      have r6 : lstS (servedSt ms ws.reverse ws.reverse.length).1 = X := by rw [eR]; exact (law_eq hMo hWi.2).1.trans eX.symm
      have r7 : (servedSt ms ws.reverse ws.reverse.length).2.1 = o := by rw [eR]; exact (law_eq hMo hWi.2).2.1.trans eo.symm
      have r8 : (servedSt ms ws.reverse ws.reverse.length).2.2 = p := by rw [eR]; exact (law_eq hMo hWi.2).2.2.trans ep.symm
      k_dflt (refine' use_served (ms := ms) (ws := ws.reverse) (tab := tab2) (x := X) (o := o) (p := p) ht2 ?rP hMs Ir hMo hWr r6 r7 r8 ?r1 ?r2 ?r3 ?r4 ?r5 ?rz ?rA ?rcf ?rck ?rB fT ?rX nT ?rT ?rXB ?rTB ?rD ?rC ?rr1 ?rr2 ?rk)
      case r5 => exact .tail _ (.tail _ (.head _))
      case r1 => exact .tail _ (.tail _ (.tail _ (.head _)))
      case r2 => exact .tail _ (.tail _ (.tail _ (.tail _ (.head _))))
      case r3 => exact .head _
      case r4 => exact fun q hq => .tail _ (.tail _ (.tail _ (.tail _ (.tail _ (.tail _ hq)))))
      case rP => exact .cons _ _ (.cons _ _ (.cons _ _ (.cons _ _ (.cons _ _ (.cons _ _ .nil)))))
      case rz => exact rfl
      case rA => exact rfl
      case rcf => exact rfl
      case rck => exact rfl
      case rB => k_asm
      case rX => k_asm
      case rT => k_asm
      case rXB => assumption
      case rTB => assumption
      case rD => assumption
      case rC => assumption
      case rr1 => exact Nat.le_of_ble_eq_true rfl
      case rr2 => exact Nat.le_of_ble_eq_true rfl
      case rk =>
        clear nT fT eR r6 r7 r8
        intro T3 y1 y2 y3 n3 tab3 h3 tk3 g3 ht3 Tu3 B3 F3 X3 N3 Tp3 D3
        (try k_lift B3)
        repeat' (first | (k_unfold; (try dsimp only)) | walk1 | (dsimp only; walk1) | (leave1; walk_say "STEP leave1"; try dsimp only) | fail "no step")
        all_goals unfold Mine.StopHere
        · exact good_end B3 (by assumption) (by assumption) rfl
        · (with_reducible rename (News _ _ _ _) => nT)
          exact grown_tab ht3 nT (fun q hq => .tail _ (.tail _ (.tail _ (.tail _ (.tail _ hq)))))
end Mine
end
theorem PySem.Challenge.cw_rt0053_01_holds : PySem.Challenge.rw_rt0053_01.Holds := by
  exact Mine.law_holds
