import PyProof.Rows.All
import Wide.All
import OpenK.AllK
import Wide.FinOn
import PyProof.GenComp
import PyProof.StrLawsNeg
import Lean
import PySem.Challenge.RW_sn0078_01
open PySem PySem.W PyProof.Rows PySem.Spec PySem.Calls
set_option Elab.async false
set_option maxRecDepth 100000
set_option linter.unusedVariables false
namespace Mine
open PySem.Challenge
theorem said0 : PySem.Challenge.rw_sn0078_01.wellSaid = true := (congrFun PySem.W.Fast.te9446332074065402090 PySem.Challenge.rw_sn0078_01).trans (by kernel_rfl)
theorem sub_step {a b : Nat} (h : b < a) : a - b = a - (b + 1) + 1 := by rw [Nat.sub_add_eq, Nat.sub_add_cancel (Nat.sub_pos_of_lt h)]
theorem sub_next {a b k : Nat} (h : a - b = k + 1) : a - (b + 1) = k := by rw [Nat.sub_add_eq, h]; rfl
theorem toNat_in {x y : Int} (hx : 0 ≤ x) (hy : 0 ≤ y) (h : x.toNat = y.toNat) : x = y := by rw [← Int.toNat_of_nonneg hx, ← Int.toNat_of_nonneg hy, h]
inductive Out (α : Type) where
  | ok (a : α) (p : Pos) (t : BT) (n k : Nat)
  | err (e : Value) (p : Pos) (t : BT) (n k : Nat)
@[reducible] noncomputable def fz {β : Type} (x : Nat) (f : Nat → β) : β := Nat.rec (motive := fun _ => β) (f 0) (fun m _ => f (m + 1)) x
theorem fz_eq {β : Type} (x : Nat) (f : Nat → β) : fz x f = f x := by cases x <;> rfl
noncomputable abbrev CallT := PySem.Ctx → Pos → BT → Nat → Nat → Option (Result × BT × Nat × Nat)
noncomputable def evT {α : Type} (set : Setting) (call : CallT) (Γ : PySem.Ctx) (m : Sem α) : Pos → BT → Nat → Nat → Option (Out α) :=
  Sem.rec (motive := fun _ => Pos → BT → Nat → Nat → Option (Out α))
    (fun a p t n k => some (.ok a p t n k))
    (fun e p t n k => some (.err e p t n k))
    (fun _ _ _ _ _ => none)
    (fun _ _ _ _ _ => none)
    (fun _ _ ih p t n k => ih () p t n k)
    (fun p' _ ih _ t n k => ih () p' t n k)
    (fun a _ _ ih p t n k => match Nat.blt a n with
      | true => match t.get a with
        | some o => match alive o with
          | some o' => ih o' p t n k
          | none => none
        | none => none
      | false => none)
    (fun a _ f _ ih p t n k => match Nat.blt a n with
      | true => match t.get a with
        | some o => match alive o with
          | some _ => ih () p (t.set a f) n k
          | none => none
        | none => none
      | false => none)
    (fun o _ ih p t n k => match ((t.ins n o).get n).isSome with
      | true => fz (n + 1) fun n' => ih n p (t.ins n o) n' k
      | false => none)
    (fun a _ ih p t n k => match Nat.blt a n with
      | true => match t.get a with
        | some o => ih (alive o) p t n k
        | none => none
      | false => ih none p t n k)
    (fun _ _ ih p t n k => ih () p t n k)
    (fun _ _ _ _ _ _ _ => none)
    (fun _ ih p t n k => fz (k + 1) fun k' => ih k p t n k')
    (fun _ ih p t n k => ih set p t n k)
    (fun _ _ _ _ _ _ _ _ => none)
    (fun _ _ _ _ _ _ _ _ => none)
    (fun c h _ _ _ ih p t n k => match call (Γ.enter c h p) p t n k with
      | some (r, t', n', k') => ih r p t' n' k'
      | none => none)
    (fun own _ ih p t n k => ih (if own then Γ.own else Γ.handled) p t n k)
    (fun _ _ _ _ _ _ _ => none)
    (fun _ _ _ _ _ _ _ => none)
    (fun _ _ _ _ _ _ _ _ _ => none)
    (fun _ _ _ _ _ _ _ _ _ => none)
    (fun _ ih p t n k => ih ((Γ.code, p) :: Γ.below) p t n k)
    (fun _ _ _ _ _ _ _ => none)
    (fun _ ih p t n k => ih 0 p t n k)
    (fun _ _ _ _ _ _ _ _ _ _ => none)
    m
noncomputable def evC (den : Code → Sem Fin) (set : Setting) (fuel : Nat) : CallT :=
  Nat.rec (motive := fun _ => CallT) (fun _ _ _ _ _ => none)
    (fun _ ih Γ p t n k => match evT set ih Γ (den Γ.code) p t n k with
      | some (.ok (.done f) _ t' n' k') => some (.ok f, t', n', k')
      | some (.ok (.again c) p' t' n' k') => match c.quiet with
        | true => ih (Γ.goto c) p' t' n' k'
        | false => none
      | some (.err e _ t' n' k') => some (.error e, t', n', k')
      | none => none) fuel
section
variable {M : Model} {life : Life} {gens : Array GenState} {drawn : Drawn} {os : OsState}
noncomputable def Out.holds {α : Type} (life : Life) (gens : Array GenState) (drawn : Drawn) (os : OsState) (Q : α → Pos → Shared → Prop) (E : Value → Pos → Shared → Prop) : Out α → Prop
  | .ok a p t n k => Q a p ⟨absHeap t n life, gens, drawn, k, os⟩
  | .err e p t n k => E e p ⟨absHeap t n life, gens, drawn, k, os⟩
noncomputable def CallOk (M : Model) (life : Life) (gens : Array GenState) (drawn : Drawn) (os : OsState) (call : CallT) : Prop :=
  ∀ Γ p t n k r t' n' k', call Γ p t n k = some (r, t', n', k') → ∀ R : Result → Shared → Prop, R r ⟨absHeap t' n' life, gens, drawn, k', os⟩ → wpCode M Γ R p ⟨absHeap t n life, gens, drawn, k, os⟩
theorem evT_wp {α : Type} {call : CallT} (hc : CallOk M life gens drawn os call) (Γ : PySem.Ctx) (Q : α → Pos → Shared → Prop) (E : Value → Pos → Shared → Prop) (m : Sem α) :
    ∀ p t n k o, evT ⟨M.prog, M.w.params⟩ call Γ m p t n k = some o → o.holds life gens drawn os Q E → Sem.wp M Γ m Q E p ⟨absHeap t n life, gens, drawn, k, os⟩ := by
  induction m with
  | pure a => intro p t n k o h H; obtain rfl := Option.some.inj h; exact H
  | raise e => intro p t n k o h H; obtain rfl := Option.some.inj h; exact H
  | unsupported | finish | yield | fork | await | register | choose | os | newGen | genState | resume => intro p t n k o h H; cases h
  | rule tag c ih => intro p t n k o h H; exact ih () p t n k o h H
  | «at» p' c ih => intro p t n k o h H; exact ih () p' t n k o h H
  | point l c ih => intro p t n k o h H; exact ih () p t n k o h H
  | ask c ih => intro p t n k o h H; exact ih _ p t n k o h H
  | thread c ih => intro p t n k o h H; exact ih _ p t n k o h H
  | stack c ih => intro p t n k o h H; exact ih _ p t n k o h H
  | handled own c ih => intro p t n k o h H; exact ih _ p t n k o h H
  | fresh c ih =>
    intro p t n k o h H
    have h' : fz (k + 1) (fun k' => evT ⟨M.prog, M.w.params⟩ call Γ (c k) p t n k') = some o := h
    rw [fz_eq] at h'
    exact ih _ p t n (k + 1) o h' H
  | alloc ob c ih =>
    intro p t n k o h H
    have h' : (match ((t.ins n ob).get n).isSome with
      | true => fz (n + 1) fun n' => evT ⟨M.prog, M.w.params⟩ call Γ (c n) p (t.ins n ob) n' k
      | false => none) = some o := h
    cases e : ((t.ins n ob).get n).isSome with
    | false => rw [e] at h'; cases h'
    | true =>
      rw [e] at h'
      dsimp only at h'
      rw [fz_eq] at h'
      have := ih n p (t.ins n ob) (n + 1) k o h' H
      rw [Sem.wp_alloc, absHeap_size]
      rw [absHeap_ins e] at this
      exact this
  | loadIfAlive a c ih =>
    intro p t n k o h H
    have h' : (match Nat.blt a n with
      | true => match t.get a with
        | some o => evT ⟨M.prog, M.w.params⟩ call Γ (c (alive o)) p t n k
        | none => none
      | false => evT ⟨M.prog, M.w.params⟩ call Γ (c none) p t n k) = some o := h
    rw [Sem.wp_loadIfAlive]
    show Sem.wp M Γ (c ((absHeap t n life).get? a)) Q E p _
    cases e : Nat.blt a n with
    | false =>
      rw [e] at h'
      have hn : ¬ a < n := fun q => by rw [show Nat.blt a n = true from Nat.ble_eq.mpr q] at e; cases e
      rw [abs_get_none hn]
      exact ih _ p t n k o h' H
    | true =>
      rw [e] at h'
      dsimp only at h'
      have hn : a < n := Nat.le_of_ble_eq_true e
      cases g : t.get a with
      | none => rw [g] at h'; cases h'
      | some ob =>
        rw [g] at h'
        rw [abs_get hn g]
        exact ih _ p t n k o h' H
  | load a part c ih =>
    intro p t n k o h H
    have h' : (match Nat.blt a n with
      | true => match t.get a with
        | some o => match alive o with
          | some o' => evT ⟨M.prog, M.w.params⟩ call Γ (c o') p t n k
          | none => none
        | none => none
      | false => none) = some o := h
    rw [Sem.wp_load]
    cases e : Nat.blt a n with
    | false => rw [e] at h'; cases h'
    | true =>
      rw [e] at h'
      dsimp only at h'
      have hn : a < n := Nat.le_of_ble_eq_true e
      cases g : t.get a with
      | none => rw [g] at h'; cases h'
      | some ob =>
        rw [g] at h'
        dsimp only at h'
        cases g2 : alive ob with
        | none => rw [g2] at h'; cases h'
        | some ob' =>
          rw [g2] at h'
          exact ⟨ob', (abs_get hn g).trans g2, ih _ p t n k o h' H⟩
  | update a part f c ih =>
    intro p t n k o h H
    have h' : (match Nat.blt a n with
      | true => match t.get a with
        | some o => match alive o with
          | some _ => evT ⟨M.prog, M.w.params⟩ call Γ (c ()) p (t.set a f) n k
          | none => none
        | none => none
      | false => none) = some o := h
    rw [Sem.wp_update]
    cases e : Nat.blt a n with
    | false => rw [e] at h'; cases h'
    | true =>
      rw [e] at h'
      dsimp only at h'
      have hn : a < n := Nat.le_of_ble_eq_true e
      cases g : t.get a with
      | none => rw [g] at h'; cases h'
      | some ob =>
        rw [g] at h'
        dsimp only at h'
        cases g2 : alive ob with
        | none => rw [g2] at h'; cases h'
        | some ob' =>
          rw [g2] at h'
          refine ⟨by show ((absHeap t n life).get? a).isSome = true; rw [abs_get hn g, g2]; rfl, ?_⟩
          have := ih _ p (t.set a f) n k o h' H
          rw [absHeap_set g] at this
          exact this
  | call cd hd g l c ih =>
    intro p t n k o h H
    have h' : (match call (Γ.enter cd hd p) p t n k with
      | some (r, t', n', k') => evT ⟨M.prog, M.w.params⟩ call Γ (c r) p t' n' k'
      | none => none) = some o := h
    rw [Sem.wp_call]
    cases e : call (Γ.enter cd hd p) p t n k with
    | none => rw [e] at h'; cases h'
    | some x =>
      obtain ⟨r, t', n', k'⟩ := x
      rw [e] at h'
      exact hc _ _ _ _ _ _ _ _ _ e _ (ih r p t' n' k' o h' H)
theorem evC_ok (M : Model) : ∀ fuel, CallOk M life gens drawn os (evC M.den ⟨M.prog, M.w.params⟩ fuel)
  | 0 => by intro Γ p t n k r t' n' k' h; cases h
  | fuel + 1 => by
    intro Γ p t n k r t' n' k' h R hR
    have h' : (match evT ⟨M.prog, M.w.params⟩ (evC M.den ⟨M.prog, M.w.params⟩ fuel) Γ (M.den Γ.code) p t n k with
      | some (.ok (.done f) _ t' n' k') => some (Except.ok f, t', n', k')
      | some (.ok (.again c) p' t' n' k') => match c.quiet with
        | true => evC M.den ⟨M.prog, M.w.params⟩ fuel (Γ.goto c) p' t' n' k'
        | false => none
      | some (.err e _ t' n' k') => some (Except.error e, t', n', k')
      | none => none) = some (r, t', n', k') := h
    rw [wpCode_iff_wp]
    cases e : evT ⟨M.prog, M.w.params⟩ (evC M.den ⟨M.prog, M.w.params⟩ fuel) Γ (M.den Γ.code) p t n k with
    | none => rw [e] at h'; cases h'
    | some o =>
      rw [e] at h'
      refine evT_wp (evC_ok M fuel) Γ _ _ _ p t n k o e ?_
      cases o with
      | err e p' t₁ n₁ k₁ =>
        dsimp only at h'
        injection h' with h'; injection h' with h1 h2; injection h2 with h2 h3; injection h3 with h3 h4
        subst h1 h2 h3 h4
        exact hR
      | ok f p' t₁ n₁ k₁ =>
        cases f with
        | done f =>
          dsimp only at h'
          injection h' with h'; injection h' with h1 h2; injection h2 with h2 h3; injection h3 with h3 h4
          subst h1 h2 h3 h4
          exact hR
        | again c =>
          dsimp only at h'
          cases q : c.quiet with
          | false => rw [q] at h'; cases h'
          | true =>
            rw [q] at h'
            exact ⟨q, evC_ok M fuel _ _ _ _ _ _ _ _ _ h' R hR⟩
end
noncomputable abbrev dObj (es : List DictEntry) (n : Nat) : Obj := { cls := .type "dict", data := .dict es.toArray n }
noncomputable def hp (h : Heap) (os : List Obj) : Heap := ⟨h.objs ++ os.toArray, h.life⟩
theorem hp_size (h : Heap) (os : List Obj) : (hp h os).objs.size = h.objs.size + os.length := by simp [hp]
theorem hp_push (h : Heap) (os : List Obj) (o : Obj) : (hp h os).push o = hp h (os ++ [o]) := by
  show Heap.mk _ _ = Heap.mk _ _
  congr 1
  simp
theorem hp_nil (h : Heap) : hp h [] = h := by
  cases h; simp [hp]
theorem hp_get (h : Heap) (as bs : List Obj) (es : List DictEntry) (n : Nat) : (hp h (as ++ dObj es n :: bs)).get? (h.objs.size + as.length) = some (dObj es n) := by
  unfold Heap.get? hp
  have : (h.objs ++ (as ++ dObj es n :: bs).toArray)[h.objs.size + as.length]? = some (dObj es n) := by
    rw [Array.getElem?_append_right (by omega)]
    simp
  rw [this]
theorem hp_update (h : Heap) (as bs : List Obj) (o : Obj) (f : Obj → Obj) : (hp h (as ++ o :: bs)).update (h.objs.size + as.length) f = hp h (as ++ f o :: bs) := by
  show Heap.mk _ _ = Heap.mk _ _
  congr 1
  apply Array.ext_getElem?
  intro i
  rw [Array.getElem?_modify]
  by_cases hi : h.objs.size + as.length = i
  · subst hi
    rw [if_pos rfl, Array.getElem?_append_right (Nat.le_add_right _ _), Array.getElem?_append_right (Nat.le_add_right _ _)]
    simp
  · rw [if_neg hi]
    by_cases hl : i < h.objs.size
    · rw [Array.getElem?_append_left hl, Array.getElem?_append_left hl]
    · rw [Array.getElem?_append_right (Nat.le_of_not_lt hl), Array.getElem?_append_right (Nat.le_of_not_lt hl)]
      simp only [List.getElem?_toArray]
      by_cases h1 : i - h.objs.size < as.length
      · rw [List.getElem?_append_left h1, List.getElem?_append_left h1]
      · rw [List.getElem?_append_right (Nat.le_of_not_lt h1), List.getElem?_append_right (Nat.le_of_not_lt h1)]
        obtain ⟨j, hj⟩ : ∃ j, i - h.objs.size - as.length = j + 1 := Nat.exists_eq_succ_of_ne_zero (n := i - h.objs.size - as.length) fun e => hi ((congrArg (h.objs.size + ·) (Nat.le_antisymm (Nat.le_of_not_lt h1) (Nat.le_of_sub_eq_zero e))).trans (Nat.add_sub_cancel' (Nat.le_of_not_lt hl)))
        rw [hj]; rfl
noncomputable def KeyedBy (K : List Int) (es : List DictEntry) : Prop := ∀ e ∈ es, ∃ k t, e.key = .int k t ∧ e.hash = hashInt k ∧ k ∈ K
theorem KeyedBy.ints {K : List Int} {es : List DictEntry} (h : KeyedBy K es) : IntKeys es.toArray := fun e he => by
  obtain ⟨k, t, a, b, _⟩ := h e (by simpa using he)
  exact ⟨k, t, a, b⟩
theorem KeyedBy.none {K : List Int} {es : List DictEntry} (h : KeyedBy K es) {k : Int} (hk : k ∉ K) : (es.toArray.findIdx? fun e => Value.isInt k e.key) = none := by
  rw [Array.findIdx?_eq_none_iff]
  intro e he
  obtain ⟨k', t, a, _, c⟩ := h e (by simpa using he)
  rw [a]
  show (k' == k) = false
  cases q : k' == k with
  | false => rfl
  | true => exact absurd (eq_of_beq q ▸ c) hk
theorem KeyedBy.push {K : List Int} {es : List DictEntry} (h : KeyedBy K es) (k : Int) (t : Tok) (v : Value) : KeyedBy (K ++ [k]) (es ++ [⟨hashInt k, .int k t, v⟩]) := by
  intro e he
  rcases List.mem_append.mp he with he | he
  · obtain ⟨k', t', a, b, c⟩ := h e he
    exact ⟨k', t', a, b, List.mem_append_left _ c⟩
  · obtain rfl := List.mem_singleton.mp he
    exact ⟨k, t, rfl, rfl, List.mem_append_right _ (List.mem_singleton.mpr rfl)⟩
theorem mapKeys_push (es : List DictEntry) (n : Nat) (e : DictEntry) : Obj.mapDictKeys (·.push e) (dObj es n) = dObj (es ++ [e]) (n + 1) := by
  show ({ cls := .type "dict", data := .dict (es.toArray.push e) (n + 1) } : Obj) = _
  rw [List.push_toArray]
section
variable {prog : Program} {w : World} {A : Around} {E : Value → Shared → Prop} {h : Heap} {gs : Array GenState} {dr : Drawn} {os : OsState} {tk : Nat}
theorem dSet {as bs : List Obj} {es : List DictEntry} {n : Nat} {K : List Int} {k : Int} {t : Tok} {v : Value} {Q : Unit → Shared → Prop} (hK : KeyedBy K es) (hk : k ∉ K) (hz : es.length ≤ sizeLine)
    (hq : Q () ⟨hp h (as ++ dObj (es ++ [⟨hashInt k, .int k t, v⟩]) (n + 1) :: bs), gs, dr, tk + 1, os⟩) :
    wpAny (model prog w) A (dictSet (h.objs.size + as.length) (.int k t) v) Q E ⟨hp h (as ++ dObj es n :: bs), gs, dr, tk, os⟩ := by
  unfold dictSet
  refine wpAny_holding ?_
  refine wpAny_bind (wpAny_pyHash_int ?_)
  unfold dictSetHashed
  refine wpAny_holding ?_
  refine wpAny_bind (wpAny_dictFind_int (hp_get ..) rfl hK.ints ?_)
  rw [hK.none hk]
  refine wpAny_bind (wpAny_rule (wpAny_updateDictKeys (hz := by simpa using hz) (hp_get ..) rfl ?_))
  dsimp only
  rw [hp_update, mapKeys_push]
  exact hq
theorem dPut {as bs : List Obj} {es : List DictEntry} {n : Nat} {K : List Int} {k : Int} {t : Tok} {v : Value} {Q : Unit → Shared → Prop} (hK : KeyedBy K es) (hk : k ∉ K) (hz : es.length ≤ sizeLine)
    (hq : Q () ⟨hp h (as ++ dObj (es ++ [⟨hashInt k, .int k t, v⟩]) (n + 1) :: bs), gs, dr, tk, os⟩) :
    wpAny (model prog w) A (dictPut (h.objs.size + as.length) (hashInt k) (.int k t) v) Q E ⟨hp h (as ++ dObj es n :: bs), gs, dr, tk, os⟩ := by
  unfold dictPut
  refine wpAny_bind (wpAny_dictFind_int (hp_get ..) rfl hK.ints ?_)
  rw [hK.none hk]
  refine wpAny_updateDictKeys (hz := by simpa using hz) (hp_get ..) rfl ?_
  dsimp only
  rw [hp_update, mapKeys_push]
  exact hq
end
noncomputable def entL : Nat → List (Int × Str) → List DictEntry
  | _, [] => []
  | t, (i, x) :: r => ⟨hashInt i, .int i t, .str x (t + 1)⟩ :: entL (t + 3) r
noncomputable def entS : Nat → List (Int × Str) → List DictEntry
  | _, [] => []
  | t, (i, x) :: r => ⟨hashInt i, .int i t, .str x (t + 1)⟩ :: entS (t + 2) r
theorem entL_len : ∀ (t : Nat) (l : List (Int × Str)), (entL t l).length = l.length
  | _, [] => rfl
  | t, _ :: r => by simp [entL, entL_len (t + 3) r]
theorem entS_len : ∀ (t : Nat) (l : List (Int × Str)), (entS t l).length = l.length
  | _, [] => rfl
  | t, _ :: r => by simp [entS, entS_len (t + 2) r]
theorem entL_keyed : ∀ (t : Nat) (l : List (Int × Str)), KeyedBy (l.map (·.1)) (entL t l)
  | _, [] => fun e he => nomatch he
  | t, (i, x) :: r => fun e he => by
    rcases List.mem_cons.mp he with rfl | he
    · exact ⟨i, t, rfl, rfl, .head _⟩
    · obtain ⟨k, u, a, b, c⟩ := entL_keyed (t + 3) r e he
      exact ⟨k, u, a, b, .tail _ c⟩
theorem entS_keyed : ∀ (t : Nat) (l : List (Int × Str)), KeyedBy (l.map (·.1)) (entS t l)
  | _, [] => fun e he => nomatch he
  | t, (i, x) :: r => fun e he => by
    rcases List.mem_cons.mp he with rfl | he
    · exact ⟨i, t, rfl, rfl, .head _⟩
    · obtain ⟨k, u, a, b, c⟩ := entS_keyed (t + 2) r e he
      exact ⟨k, u, a, b, .tail _ c⟩
theorem KeyedBy.app {K L : List Int} {es fs : List DictEntry} (h : KeyedBy K es) (g : KeyedBy L fs) : KeyedBy (K ++ L) (es ++ fs) := by
  intro e he
  rcases List.mem_append.mp he with he | he
  · obtain ⟨k, t, a, b, c⟩ := h e he
    exact ⟨k, t, a, b, List.mem_append_left _ c⟩
  · obtain ⟨k, t, a, b, c⟩ := g e he
    exact ⟨k, t, a, b, List.mem_append_right _ c⟩
section
variable {prog : Program} {w : World} {A : Around}
noncomputable def MakesI (prog : Program) (w : World) (A : Around) (m : Sem Value) (i : Int) : Prop := ∀ (Q E : Value → Shared → Prop) (s : Shared), Q (.int i s.toks) { s with toks := s.toks + 1 } → wpAny (model prog w) A m Q E s
noncomputable def MakesS (prog : Program) (w : World) (A : Around) (m : Sem Value) (x : Str) : Prop := ∀ (Q E : Value → Shared → Prop) (s : Shared), Q (.str x s.toks) { s with toks := s.toks + 1 } → wpAny (model prog w) A m Q E s
noncomputable def KVs (prog : Program) (w : World) (A : Around) : List (Sem Value × Sem Value) → List (Int × Str) → Prop
  | [], [] => True
  | p :: ps, x :: xs => MakesI prog w A p.1 x.1 ∧ MakesS prog w A p.2 x.2 ∧ KVs prog w A ps xs
  | _, _ => False
theorem KVs.length : ∀ {ps : List (Sem Value × Sem Value)} {xs : List (Int × Str)}, KVs prog w A ps xs → ps.length = xs.length
  | [], [], _ => rfl
  | _ :: ps, _ :: xs, h => congrArg (· + 1) (KVs.length h.2.2)
  | [], _ :: _, h => h.elim
  | _ :: _, [], h => h.elim
variable {E : Value → Shared → Prop} {h : Heap} {gs : Array GenState} {dr : Drawn} {os : OsState}
theorem longLoop {as bs : List Obj} : ∀ (ps : List (Sem Value × Sem Value)) (xs : List (Int × Str)) (es : List DictEntry) (n : Nat) (K : List Int) (tk : Nat) (Q : PUnit → Shared → Prop), KVs prog w A ps xs → KeyedBy K es → (K ++ xs.map (·.1)).Nodup → es.length + xs.length ≤ sizeLine →
    Q PUnit.unit ⟨hp h (as ++ dObj (es ++ entL tk xs) (n + xs.length) :: bs), gs, dr, tk + 3 * xs.length, os⟩ →
    wpAny (model prog w) A (forIn ps PUnit.unit fun (p : Sem Value × Sem Value) (_ : PUnit) => (do
        let kv ← p.1
        let vv ← holding [kv] p.2
        holding [kv, vv] (dictSet (h.objs.size + as.length) kv vv)
        pure (ForInStep.yield PUnit.unit) : Sem (ForInStep PUnit))) Q E ⟨hp h (as ++ dObj es n :: bs), gs, dr, tk, os⟩
  | [], [], es, n, K, tk, Q, _, _, _, _, hq => by
    rw [List.forIn_nil]
    refine wpAny_pure ?_
    simpa [entL] using hq
  | p :: ps, (i, x) :: xs, es, n, K, tk, Q, hv, hK, hnd, hz, hq => by
    obtain ⟨h1, h2, h3⟩ := hv
    rw [List.forIn_cons]
    refine wpAny_bind (wpAny_bind (h1 _ _ _ (wpAny_bind (wpAny_holding (h2 _ _ _ (wpAny_bind (wpAny_holding ?_)))))))
    have hi : i ∉ K := fun q => by
      rw [List.nodup_append] at hnd
      exact hnd.2.2 i q i (.head _) rfl
    refine dSet hK hi (by simp at hz; omega) ?_
    refine wpAny_pure ?_
    refine longLoop ps xs _ _ (K ++ [i]) _ Q h3 (hK.push i _ _) (by simpa using hnd) (by simp at hz ⊢; omega) ?_
    have e1 : n + 1 + xs.length = n + (xs.length + 1) := by omega
    have e2 : tk + 1 + 1 + 1 + 3 * xs.length = tk + 3 * (xs.length + 1) := by omega
    simp only [entL, List.length_cons] at hq
    simpa [List.append_assoc, e1, e2] using hq
  | [], _ :: _, _, _, _, _, _, hv, _, _, _, _ => hv.elim
  | _ :: _, [], _, _, _, _, _, hv, _, _, _, _ => hv.elim
theorem longSub {as : List Obj} {ps : List (Sem Value × Sem Value)} {xs : List (Int × Str)} {tk : Nat} {Q : Addr → Shared → Prop} (hv : KVs prog w A ps xs) (hl : 15 < ps.length) (hnd : (xs.map (·.1)).Nodup) (hz : xs.length ≤ sizeLine)
    (hq : Q (h.objs.size + as.length) ⟨hp h (as ++ [dObj (entL tk xs) xs.length]), gs, dr, tk + 3 * xs.length, os⟩) :
    wpAny (model prog w) A (subDict ps) Q E ⟨hp h as, gs, dr, tk, os⟩ := by
  unfold subDict
  refine wpAny_bind (wpAny_alloc ?_)
  dsimp only
  rw [hp_push, hp_size]
  refine wpAny_bind (wpAny_holding ?_)
  rw [if_neg (by omega)]
  refine wpAny_bind (wpAny_rule ?_)
  refine wpAny_bind (longLoop (as := as) (bs := []) ps xs [] 0 [] tk _ hv (fun e he => nomatch he) (by simpa using hnd) (by simpa using hz) ?_)
  refine wpAny_pure (wpAny_pure ?_)
  simpa using hq
theorem evalKV : ∀ (ps : List (Sem Value × Sem Value)) (xs : List (Int × Str)) (s : Shared) (Q : List (Value × Value) → Shared → Prop), KVs prog w A ps xs →
    Q ((entS s.toks xs).map fun e => (e.key, e.val)) { s with toks := s.toks + 2 * xs.length } → wpAny (model prog w) A (evalPairs ps) Q E s
  | [], [], s, Q, _, hq => wpAny_pure (by simpa [entS] using hq)
  | p :: ps, (i, x) :: xs, s, Q, hv, hq => by
    obtain ⟨h1, h2, h3⟩ := hv
    rw [evalPairs]
    refine wpAny_bind (h1 _ _ _ (wpAny_bind (wpAny_holding (h2 _ _ _ ?_))))
    refine wpAny_bind (wpAny_holding (evalKV ps xs _ _ h3 (wpAny_pure ?_)))
    have e2 : s.toks + 1 + 1 + 2 * xs.length = s.toks + 2 * (xs.length + 1) := by omega
    simp only [entS, List.map_cons, List.length_cons] at hq
    dsimp only
    rw [e2]
    exact hq
  | [], _ :: _, _, _, hv, _ => hv.elim
  | _ :: _, [], _, _, hv, _ => hv.elim
theorem shortLoop {as bs : List Obj} : ∀ (t : Nat) (xs : List (Int × Str)) (es : List DictEntry) (n : Nat) (K : List Int) (tk : Nat) (Q : PUnit → Shared → Prop), KeyedBy K es → (K ++ xs.map (·.1)).Nodup → es.length + xs.length ≤ sizeLine →
    Q PUnit.unit ⟨hp h (as ++ dObj (es ++ entS t xs) (n + xs.length) :: bs), gs, dr, tk + xs.length, os⟩ →
    wpAny (model prog w) A (forIn ((entS t xs).map fun e => (e.key, e.val)) PUnit.unit fun (x : Value × Value) (_ : PUnit) => (do
        dictSet (h.objs.size + as.length) x.1 x.2
        pure (ForInStep.yield PUnit.unit) : Sem (ForInStep PUnit))) Q E ⟨hp h (as ++ dObj es n :: bs), gs, dr, tk, os⟩
  | t, [], es, n, K, tk, Q, _, _, _, hq => by
    rw [entS, List.map_nil, List.forIn_nil]
    exact wpAny_pure (by simpa [entS] using hq)
  | t, (i, x) :: xs, es, n, K, tk, Q, hK, hnd, hz, hq => by
    rw [entS, List.map_cons, List.forIn_cons]
    have hi : i ∉ K := fun q => by
      rw [List.nodup_append] at hnd
      exact hnd.2.2 i q i (.head _) rfl
    refine wpAny_bind (wpAny_bind (dSet hK hi (by simp at hz; omega) (wpAny_pure ?_)))
    refine shortLoop (t + 2) xs _ _ (K ++ [i]) _ Q (hK.push i _ _) (by simpa using hnd) (by simp at hz ⊢; omega) ?_
    have e1 : n + 1 + xs.length = n + (xs.length + 1) := by omega
    have e2 : tk + 1 + xs.length = tk + (xs.length + 1) := by omega
    simp only [entS, List.length_cons] at hq
    simpa [List.append_assoc, e1, e2] using hq
theorem shortSub {as : List Obj} {ps : List (Sem Value × Sem Value)} {xs : List (Int × Str)} {tk : Nat} {Q : Addr → Shared → Prop} (hv : KVs prog w A ps xs) (hl : ps.length ≤ 15) (hnd : (xs.map (·.1)).Nodup)
    (hq : Q (h.objs.size + as.length) ⟨hp h (as ++ [dObj (entS tk xs) xs.length]), gs, dr, tk + 3 * xs.length, os⟩) :
    wpAny (model prog w) A (subDict ps) Q E ⟨hp h as, gs, dr, tk, os⟩ := by
  unfold subDict
  refine wpAny_bind (wpAny_alloc ?_)
  dsimp only
  rw [hp_push, hp_size]
  refine wpAny_bind (wpAny_holding ?_)
  rw [if_pos hl]
  refine wpAny_bind (evalKV ps xs _ _ hv (wpAny_holding ?_))
  have hlen := hv.length
  refine wpAny_bind (shortLoop (as := as) (bs := []) tk xs [] 0 [] _ _ (fun e he => nomatch he) (by simpa using hnd) (by rw [sizeLine_eq]; simp; omega) ?_)
  refine wpAny_pure (wpAny_pure ?_)
  have e2 : tk + 2 * xs.length + xs.length = tk + 3 * xs.length := by omega
  simpa [e2] using hq
theorem mergeSub {bs : List Obj} {es ss : List DictEntry} {n m : Nat} {K L : List Int} {tk : Nat} {Q : Unit → Shared → Prop} (hK : KeyedBy K es) (hL : ∀ (i : Nat) (e : DictEntry), ss[i]? = some e → ∃ k t, e.key = Value.int k t ∧ e.hash = hashInt k ∧ L[i]? = some k) (hnd : (K ++ L).Nodup) (hn : es ≠ [])
    (hz : es.length + ss.length ≤ sizeLine) (hs : sysModules < h.objs.size)
    (hq : Q () ⟨hp h (dObj (es ++ ss) (n + ss.length) :: (bs ++ [dObj ss m])), gs, dr, tk, os⟩) :
    wpAny (model prog w) A (mergeMapping h.objs.size (.ref (h.objs.size + (bs.length + 1))) false) Q E ⟨hp h (dObj es n :: (bs ++ [dObj ss m])), gs, dr, tk, os⟩ := by
  have gd : ∀ es n, (hp h (dObj es n :: (bs ++ [dObj ss m]))).get? h.objs.size = some (dObj es n) := fun es n => hp_get h [] _ es n
  have gs' : ∀ es n, (hp h (dObj es n :: (bs ++ [dObj ss m]))).get? (h.objs.size + (bs.length + 1)) = some (dObj ss m) := fun es n => hp_get h (dObj es n :: bs) [] ss m
  unfold mergeMapping
  have tyS : (⟨hp h (dObj es n :: (bs ++ [dObj ss m])), gs, dr, tk, os⟩ : Shared).TypeIs (.ref (h.objs.size + (bs.length + 1))) "dict" := ⟨_, gs' _ _, rfl⟩
  refine wpAny_bind (wpAny_isInstance (T := "dict") (b := true) tyS isSubtype_dict_dict ?_)
  rw [if_pos rfl]
  refine wpAny_bind (wpAny_specialOf (T := "dict") tyS F.slot_dict_iter.lookup ?_)
  rw [beq_self_eq_true]
  have hne : (h.objs.size + (bs.length + 1) == sysModules) = false := by
    rw [beq_eq_false_iff_ne]
    exact Nat.ne_of_gt (Nat.lt_of_lt_of_le hs (Nat.le_add_right _ _))
  refine wpAny_bind (wpAny_pure ?_)
  dsimp only
  rw [hne]
  simp only [Bool.false_eq_true, if_false]
  refine wpAny_bind (wpAny_dictEntries (gd _ _) rfl ?_)
  have he : es.toArray.isEmpty = false := by
    cases es with
    | nil => exact absurd rfl hn
    | cons _ _ => rfl
  rw [he]
  simp only [Bool.false_eq_true, if_false]
  refine wpAny_bind (wpAny_dictEntries (gs' _ _) rfl ?_)
  refine wpAny_bind (wpAny_dictEpoch (gs' _ _) rfl ?_)
  refine wpAny_bind ?_
  refine wpAny_forIn_list _ (fun l _ s => ∃ j, j ≤ ss.length ∧ l = List.range' j (ss.length - j) ∧ s = ⟨hp h (dObj (es ++ ss.take j) (n + j) :: (bs ++ [dObj ss m])), gs, dr, tk, os⟩) _ ?_ ?_ _ _ ?_
  · rintro x rest b s ⟨j, hj, hl, rfl⟩
    have hlt : j < ss.length := by
      rcases Nat.lt_or_ge j ss.length with q | q
      · exact q
      · have : ss.length - j = 0 := Nat.sub_eq_zero_of_le q
        rw [this] at hl; cases hl
    obtain ⟨rfl, hr⟩ : x = j ∧ rest = List.range' (j + 1) (ss.length - (j + 1)) := by
      rw [sub_step hlt, List.range'_succ] at hl
      exact List.cons.inj hl
    obtain ⟨k, t, e1, e2, e3⟩ := hL x ss[x] (List.getElem?_eq_getElem hlt)
    refine wpAny_bind (wpAny_dictEntries (gs' _ _) rfl ?_)
    have hg : ss.toArray[x]? = some ss[x] := by rw [List.getElem?_toArray]; exact List.getElem?_eq_getElem hlt
    rw [hg]
    dsimp only
    have hKx : KeyedBy (K ++ L.take x) (es ++ ss.take x) := hK.app fun e he => by
      obtain ⟨i, hi, rfl⟩ := List.getElem_of_mem he
      rw [List.length_take] at hi
      rw [List.getElem_take]
      obtain ⟨k', t', a, b, c⟩ := hL i ss[i] (List.getElem?_eq_getElem (Nat.lt_of_lt_of_le hi (Nat.min_le_right _ _)))
      refine ⟨k', t', a, b, ?_⟩
      refine List.mem_of_getElem? (i := i) ?_
      rw [List.getElem?_take_of_lt (Nat.lt_of_lt_of_le hi (Nat.min_le_left _ _))]
      exact c
    have hi : k ∉ K ++ L.take x := by
      intro q
      rw [List.nodup_append] at hnd
      obtain ⟨_, hn2, hn3⟩ := hnd
      have hkL : k ∈ L := List.mem_of_getElem? e3
      rcases List.mem_append.mp q with q | q
      · exact hn3 k q k hkL rfl
      · obtain ⟨i, hi, hik⟩ := List.getElem_of_mem q
        rw [List.length_take] at hi
        rw [List.getElem_take] at hik
        obtain ⟨hxL, e4⟩ := List.getElem?_eq_some_iff.mp e3
        have := (List.getElem_inj hn2).mp (hik.trans e4.symm)
        exact Nat.lt_irrefl x (Nat.lt_of_lt_of_le (this ▸ hi) (Nat.min_le_left _ _))
    have hent : ss[x] = ⟨hashInt k, .int k t, ss[x].val⟩ := by
      rw [← e1, ← e2]
    have htk : ss.take (x + 1) = ss.take x ++ [ss[x]] := by
      rw [List.take_add_one, List.getElem?_eq_getElem hlt]; rfl
    rw [e1, e2]
    refine wpAny_bind (wpAny_holding (dPut (as := []) hKx hi (by simp; omega) ?_))
    refine wpAny_bind (wpAny_dictEpoch (gs' _ _) rfl ?_)
    rw [if_neg (by simp)]
    refine wpAny_pure ⟨x + 1, hlt, hr, ?_⟩
    rw [htk, ← List.append_assoc, ← hent]
    rfl
  · rintro b s ⟨j, hj, hl, rfl⟩
    have : ss.length - j = 0 := by
      have := congrArg List.length hl
      simpa using this.symm
    obtain rfl : j = ss.length := by omega
    refine wpAny_pure ?_
    simpa using hq
  · exact ⟨0, Nat.zero_le _, by simp [List.range_eq_range'], by simp⟩
end
noncomputable abbrev Pr := Sem Value × Sem Value
noncomputable abbrev someP (p : Pr) : Option (Sem Value) × Sem Value := (some p.1, p.2)
theorem forIn_run (f : (Option (Sem Value) × Sem Value) → (Option Addr × List Pr) → Sem (ForInStep (Option Addr × List Pr)))
    (hf : ∀ (p : Pr) (main : Option Addr) (run : List Pr), run.length + 1 < 17 → f (some p.1, p.2) (main, run) = pure (.yield (main, run ++ [p]))) (main : Option Addr) (rest : List (Option (Sem Value) × Sem Value)) :
    ∀ (items run : List Pr), run.length + items.length < 17 → forIn (items.map someP ++ rest) (main, run) f = forIn rest (main, run ++ items) f
  | [], run, _ => by simp
  | p :: items, run, h => by
    rw [List.map_cons, List.cons_append, List.forIn_cons, hf p main run (by simp at h; omega), pure_bind]
    have := forIn_run f hf main rest items (run ++ [p]) (by simp at h ⊢; omega)
    simpa using this
theorem forIn_runs (f : (Option (Sem Value) × Sem Value) → (Option Addr × List Pr) → Sem (ForInStep (Option Addr × List Pr))) (fl : List Pr → Option Addr → Sem (Option Addr))
    (hf : ∀ (p : Pr) (main : Option Addr) (run : List Pr), run.length + 1 < 17 → f (some p.1, p.2) (main, run) = pure (.yield (main, run ++ [p])))
    (hg : ∀ (p : Pr) (main : Option Addr) (run c : List Pr), run ++ [p] = c → c.length = 17 → f (some p.1, p.2) (main, run) = (fl c main >>= fun m => pure (ForInStep.yield (m, [])))) (last : List Pr) (hl : last.length < 17) :
    ∀ (cs : List (List Pr)) (main : Option Addr), (∀ c ∈ cs, c.length = 17) → forIn ((cs.flatten ++ last).map someP) (main, []) f = (cs.foldlM (fun m c => fl c m) main >>= fun m => pure (m, last))
  | [], main, _ => by
    have := forIn_run f hf main [] last [] (by simpa using hl)
    rw [List.foldlM_nil, pure_bind]
    simpa using this
  | c :: cs, main, h => by
    have hc : c.length = 17 := h c (.head _)
    obtain ⟨c', p, rfl⟩ : ∃ c' p, c = c' ++ [p] := by
      refine ⟨c.dropLast, c.getLast (by rintro rfl; simp at hc), (List.dropLast_concat_getLast _).symm⟩
    have h1 : c'.length + 1 = 17 := by simpa using hc
    rw [List.flatten_cons, List.append_assoc, List.append_assoc, List.map_append, forIn_run f hf main _ c' [] (by simp; omega)]
    rw [List.nil_append, List.map_append, List.map_cons, List.map_nil, List.singleton_append, List.forIn_cons, hg p main c' (c' ++ [p]) rfl hc]
    rw [List.foldlM_cons]
    have ih := fun m => forIn_runs f fl hf hg last hl cs m fun c hc => h c (.tail _ hc)
    rw [bind_assoc, bind_assoc]
    congr 1
    funext m
    rw [pure_bind]
    exact ih m
theorem entL_app : ∀ (t : Nat) (a b : List (Int × Str)), entL t (a ++ b) = entL t a ++ entL (t + 3 * a.length) b
  | t, [], b => rfl
  | t, (i, x) :: a, b => by
    rw [List.cons_append, entL, entL, entL_app (t + 3) a b, List.cons_append]
    rw [show t + 3 + 3 * a.length = t + 3 * ((i, x) :: a).length by simp; omega]
noncomputable def chunkObjs : Nat → List (List (Int × Str)) → List Obj
  | _, [] => []
  | t, xs :: r => dObj (entL t xs) xs.length :: chunkObjs (t + 3 * xs.length) r
section
variable {prog : Program} {w : World} {A : Around}
noncomputable def KVss (prog : Program) (w : World) (A : Around) : List (List Pr) → List (List (Int × Str)) → Prop
  | [], [] => True
  | p :: ps, x :: xs => KVs prog w A p x ∧ p.length = 17 ∧ KVss prog w A ps xs
  | _, _ => False
variable {E : Value → Shared → Prop} {h : Heap} {gs : Array GenState} {dr : Drawn} {os : OsState}
noncomputable def FlushOk (prog : Program) (w : World) (A : Around) (h : Heap) (gs : Array GenState) (dr : Drawn) (os : OsState) (E : Value → Shared → Prop) (fl : List Pr → Option Addr → Sem (Option Addr)) : Prop :=
  ∀ (ps : List Pr) (xs : List (Int × Str)) (es : List DictEntry) (n : Nat) (cs : List Obj) (K : List Int) (tk : Nat) (ss : List DictEntry) (Q : Option Addr → Shared → Prop), KVs prog w A ps xs → KeyedBy K es → (K ++ xs.map (·.1)).Nodup → es ≠ [] → es.length + xs.length ≤ sizeLine → ps ≠ [] →
    (if 15 < ps.length then ss = entL tk xs else ss = entS tk xs) →
    Q (some h.objs.size) ⟨hp h (dObj (es ++ ss) (n + xs.length) :: (cs ++ [dObj ss xs.length])), gs, dr, tk + 3 * xs.length, os⟩ →
    wpAny (model prog w) A (fl ps (some h.objs.size)) Q E ⟨hp h (dObj es n :: cs), gs, dr, tk, os⟩
theorem foldRuns {fl : List Pr → Option Addr → Sem (Option Addr)} (hfl : FlushOk prog w A h gs dr os E fl) :
    ∀ (pss : List (List Pr)) (xss : List (List (Int × Str))) (es : List DictEntry) (n : Nat) (cs : List Obj) (K : List Int) (tk : Nat) (Q : Option Addr → Shared → Prop), KVss prog w A pss xss → KeyedBy K es → (K ++ xss.flatten.map (·.1)).Nodup → es ≠ [] → es.length + xss.flatten.length ≤ sizeLine →
    Q (some h.objs.size) ⟨hp h (dObj (es ++ entL tk xss.flatten) (n + xss.flatten.length) :: (cs ++ chunkObjs tk xss)), gs, dr, tk + 3 * xss.flatten.length, os⟩ →
    wpAny (model prog w) A (pss.foldlM (fun m c => fl c m) (some h.objs.size)) Q E ⟨hp h (dObj es n :: cs), gs, dr, tk, os⟩
  | [], [], es, n, cs, K, tk, Q, _, _, _, _, _, hq => wpAny_pure (by simpa [entL, chunkObjs] using hq)
  | ps :: pss, xs :: xss, es, n, cs, K, tk, Q, hv, hK, hnd, hn, hz, hq => by
    obtain ⟨h1, h2, h3⟩ := hv
    have hlen := h1.length
    rw [List.foldlM_cons]
    rw [List.flatten_cons, List.map_append, ← List.append_assoc] at hnd
    rw [List.flatten_cons, List.length_append] at hz
    refine wpAny_bind (hfl ps xs es n cs K tk (entL tk xs) _ h1 hK (List.nodup_append.mp hnd).1 hn (by omega) (by rintro rfl; simp at h2) (by rw [if_pos (by omega)]) ?_)
    refine foldRuns hfl pss xss _ _ _ (K ++ xs.map (·.1)) _ Q h3 (hK.app (entL_keyed tk xs)) hnd (by simp [hn]) (by rw [List.length_append, entL_len]; omega) ?_
    rw [List.flatten_cons, entL_app, List.length_append, chunkObjs] at hq
    have e1 : n + xs.length + xss.flatten.length = n + (xs.length + xss.flatten.length) := by omega
    have e2 : tk + 3 * xs.length + 3 * xss.flatten.length = tk + 3 * (xs.length + xss.flatten.length) := by omega
    rw [e1, e2, List.append_assoc, List.append_assoc, List.singleton_append]
    exact hq
  | [], _ :: _, _, _, _, _, _, _, hv, _, _, _, _, _ => hv.elim
  | _ :: _, [], _, _, _, _, _, _, hv, _, _, _, _, _ => hv.elim
theorem finish {fl : List Pr → Option Addr → Sem (Option Addr)} (hfl : FlushOk prog w A h gs dr os E fl) {ps0 : List Pr} {xs0 : List (Int × Str)} {pss : List (List Pr)} {xss : List (List (Int × Str))} {last : List Pr} {xsl : List (Int × Str)} {tk : Nat} {Q : Value → Shared → Prop} {nd : Sem Value}
    (hfirst : ∀ Q : Option Addr → Shared → Prop, Q (some h.objs.size) ⟨hp h [dObj (entL tk xs0) xs0.length], gs, dr, tk + 3 * xs0.length, os⟩ → wpAny (model prog w) A (fl ps0 none) Q E ⟨h, gs, dr, tk, os⟩)
    (n0 : xs0 ≠ []) (hv : KVss prog w A pss xss) (hl : KVs prog w A last xsl) (ll : last.length ≤ 15) (ln : last ≠ []) (hnd : ((xs0 ++ xss.flatten ++ xsl).map (·.1)).Nodup) (hz : xs0.length + xss.flatten.length + xsl.length ≤ sizeLine)
    (hq : Q (.ref h.objs.size) ⟨hp h (dObj (entL tk (xs0 ++ xss.flatten) ++ entS (tk + 3 * (xs0.length + xss.flatten.length)) xsl) (xs0.length + xss.flatten.length + xsl.length) ::
        (chunkObjs (tk + 3 * xs0.length) xss ++ [dObj (entS (tk + 3 * (xs0.length + xss.flatten.length)) xsl) xsl.length])), gs, dr, tk + 3 * (xs0.length + xss.flatten.length + xsl.length), os⟩) :
    wpAny (model prog w) A (do
      let s ← (do
        let m ← List.foldlM (fun m c => fl c m) none (ps0 :: pss)
        pure (m, last))
      let l ← fl s.snd s.fst
      match l with
      | some d => pure (.ref d)
      | none => nd) Q E ⟨h, gs, dr, tk, os⟩ := by
  rw [List.foldlM_cons]
  refine wpAny_bind (wpAny_bind (wpAny_bind (hfirst _ ?_)))
  have hn1 : (xs0.map (·.1) ++ xss.flatten.map (·.1) ++ xsl.map (·.1)).Nodup := by simpa only [List.map_append] using hnd
  have hne : entL tk xs0 ≠ [] := by
    intro e
    have := congrArg List.length e
    rw [entL_len] at this
    exact n0 (List.length_eq_zero_iff.mp this)
  refine foldRuns hfl pss xss _ _ [] _ _ _ hv (entL_keyed tk xs0) (List.nodup_append.mp hn1).1 hne (by rw [entL_len]; omega) ?_
  refine wpAny_pure ?_
  refine wpAny_bind (hfl last xsl _ _ _ (xs0.map (·.1) ++ xss.flatten.map (·.1)) _ (entS (tk + 3 * xs0.length + 3 * xss.flatten.length) xsl) _ hl ((entL_keyed tk xs0).app (entL_keyed _ xss.flatten)) hn1 (by simp [hne]) (by rw [List.length_append, entL_len, entL_len]; omega) ln (by rw [if_neg (by omega)]) ?_)
  refine wpAny_pure ?_
  have e2 : tk + 3 * xs0.length + 3 * xss.flatten.length = tk + 3 * (xs0.length + xss.flatten.length) := by omega
  have e3 : tk + 3 * (xs0.length + xss.flatten.length) + 3 * xsl.length = tk + 3 * (xs0.length + xss.flatten.length + xsl.length) := by omega
  rw [entL_app] at hq
  rw [List.nil_append, e2, e3]
  exact hq
theorem display {ps0 : List Pr} {xs0 : List (Int × Str)} {pss : List (List Pr)} {xss : List (List (Int × Str))} {last : List Pr} {xsl : List (Int × Str)} {tk : Nat} {Q : Value → Shared → Prop}
    (h0 : KVs prog w A ps0 xs0) (l0 : ps0.length = 17) (hv : KVss prog w A pss xss) (hl : KVs prog w A last xsl) (ll : last.length ≤ 15) (ln : last ≠ []) (hnd : ((xs0 ++ xss.flatten ++ xsl).map (·.1)).Nodup) (hz : xs0.length + xss.flatten.length + xsl.length ≤ sizeLine) (hs : sysModules < h.objs.size)
    (hq : Q (.ref h.objs.size) ⟨hp h (dObj (entL tk (xs0 ++ xss.flatten) ++ entS (tk + 3 * (xs0.length + xss.flatten.length)) xsl) (xs0.length + xss.flatten.length + xsl.length) ::
        (chunkObjs (tk + 3 * xs0.length) xss ++ [dObj (entS (tk + 3 * (xs0.length + xss.flatten.length)) xsl) xsl.length])), gs, dr, tk + 3 * (xs0.length + xss.flatten.length + xsl.length), os⟩) :
    wpAny (model prog w) A (dictDisplay ((ps0 ++ pss.flatten ++ last).map someP)) Q E ⟨h, gs, dr, tk, os⟩ := by
  have hall : ∀ {pss : List (List Pr)} {xss : List (List (Int × Str))}, KVss prog w A pss xss → ∀ c ∈ pss, c.length = 17 := by
    intro pss
    induction pss with
    | nil => intro xss _ c hc; cases hc
    | cons p ps ih =>
      intro xss hv c hc
      cases xss with
      | nil => exact hv.elim
      | cons x xs =>
        rcases List.mem_cons.mp hc with rfl | hc
        · exact hv.2.1
        · exact ih hv.2.2 c hc
  unfold dictDisplay
  dsimp only
  rw [show ps0 ++ pss.flatten ++ last = (ps0 :: pss).flatten ++ last by simp]
  rw [forIn_runs _ _ (fun p main run hr => by
        have hne : ((run ++ [(p.1, p.2)]).length == 17) = false := by simp; omega
        simp only [hne, Bool.false_eq_true, if_false]) (fun p main run c hc hr => by
        have hne : (c.length == 17) = true := by simp [hr]
        have hc' : run ++ [(p.1, p.2)] = c := hc
        simp only [hc', hne, if_true]
        rfl) last (by omega) (ps0 :: pss) none (fun c hc => by
          rcases List.mem_cons.mp hc with rfl | hc
          · exact l0
          · exact hall hv c hc)]
  have hlen0 := h0.length
  refine finish (xs0 := xs0) (xss := xss) (xsl := xsl) ?_ ?_ (by rintro rfl; rw [l0] at hlen0; exact absurd hlen0 (by decide)) hv hl ll ln hnd hz hq
  · intro ps xs es n cs K tk ss Q hv hK hnd hn hz hps hss hq
    have he : ps.isEmpty = false := by
      cases ps with
      | nil => exact absurd rfl hps
      | cons _ _ => rfl
    dsimp only
    rw [he]
    simp only [Bool.false_eq_true, if_false]
    have hlen := hv.length
    have done : wpAny (model prog w) A ((holding [Value.ref h.objs.size, Value.ref (h.objs.size + (cs.length + 1))] (mergeMapping h.objs.size (Value.ref (h.objs.size + (cs.length + 1))) false)).onRaise fun x => do
                  let _ ← holding [Value.ref h.objs.size, x] (runValue (Code.builtin "proto.let_go" { }))
                  pure ()) (fun _ s' => Q (some h.objs.size) s') E ⟨hp h (dObj es n :: (cs ++ [dObj ss xs.length])), gs, dr, tk + 3 * xs.length, os⟩ := by
      refine wpAny_onRaise (wpAny_holding ?_)
      have hss' : ss.length = xs.length := by
        split at hss <;> subst hss
        · exact entL_len _ _
        · exact entS_len _ _
      refine mergeSub (L := xs.map (·.1)) hK ?_ hnd hn (by omega) hs (by rw [hss']; exact hq)
      intro i e hi
      split at hss <;> subst hss
      · clear hq hss'
        revert hi
        generalize tk = t0
        revert i
        clear hv hlen hz hnd
        induction xs generalizing t0 with
        | nil => intro i hi; simp [entL] at hi
        | cons x xs ih =>
          intro i hi
          cases i with
          | zero => obtain rfl : _ = e := by simpa [entL] using hi
                    exact ⟨_, _, rfl, rfl, rfl⟩
          | succ i => exact ih (t0 + 3) i (by simpa [entL] using hi)
      · clear hq hss'
        revert hi
        generalize tk = t0
        revert i
        clear hv hlen hz hnd
        induction xs generalizing t0 with
        | nil => intro i hi; simp [entS] at hi
        | cons x xs ih =>
          intro i hi
          cases i with
          | zero => obtain rfl : _ = e := by simpa [entS] using hi
                    exact ⟨_, _, rfl, rfl, rfl⟩
          | succ i => exact ih (t0 + 2) i (by simpa [entS] using hi)
    have hnx : (xs.map (·.1)).Nodup := (List.nodup_append.mp hnd).2.1
    split at hss <;> rename_i hl
    · subst hss
      exact wpAny_bind (wpAny_holding (longSub (as := dObj es n :: cs) hv hl hnx (by omega) (wpAny_bind (wpAny_mono done (fun _ _ q => wpAny_pure q) fun _ _ q => q))))
    · subst hss
      exact wpAny_bind (wpAny_holding (shortSub (as := dObj es n :: cs) hv (by omega) hnx (wpAny_bind (wpAny_mono done (fun _ _ q => wpAny_pure q) fun _ _ q => q))))
  · intro Q hq
    have he : ps0.isEmpty = false := by
      cases ps0 with
      | nil => simp at l0
      | cons _ _ => rfl
    dsimp only
    rw [he]
    simp only [Bool.false_eq_true, if_false]
    have hn0 : (xs0.map (·.1)).Nodup := by
      rw [List.map_append, List.map_append, List.nodup_append] at hnd
      exact (List.nodup_append.mp hnd.1).1
    have := longSub (E := E) (h := h) (gs := gs) (dr := dr) (os := os) (tk := tk) (as := []) (Q := fun a s' => wpAny (model prog w) A (pure (some a)) Q E s') h0 (by omega) hn0 (by omega) (wpAny_pure hq)
    rw [hp_nil] at this
    exact wpAny_bind this
end
noncomputable def fnAt (i : Nat) : Option (Str × Arguments × List Stmt × Scope) := match pw_sn0078_01.main.body[i]? with
  | some (.FunctionDef n a b _ _ _ sc _ _ _) => some (n, a, b, sc)
  | _ => none
noncomputable def methAt (j : Nat) : Option (Str × Arguments × List Stmt × Scope) := match pw_sn0078_01.main.body[(5 : Nat)]? with
  | some (.ClassDef _ _ _ b _ _ _ _ _ _ _) => (match b[j]? with
    | some (.FunctionDef n a b _ _ _ sc _ _ _) => some (n, a, b, sc)
    | _ => none)
  | _ => none
noncomputable def dictAt (i : Nat) : List (Option PySem.Expr) × List PySem.Expr := match pw_sn0078_01.main.body[i]? with
  | some (.Assign _ (.Dict ks vs _) _) => (ks, vs)
  | _ => ([], [])
noncomputable def b3Entries : Nat → List (Option PySem.Expr) → List PySem.Expr → List DictEntry
  | i, some (.Constant (.int k) _ _) :: ks, .Constant (.str s) _ _ :: vs => (fun t => ⟨k, .int k t, .str s (t + 1)⟩) (bif Nat.ble i 646 then 350 + 3 * i else 2288 + 2 * (i - 646)) :: b3Entries (i + 1) ks vs
  | _, _, _ => []
noncomputable def constAt (n : Str) : Int × Nat := match (pw_sn0078_01.main.body.zipIdx).findSome? (fun x => match x with
  | (.Assign [.Name m _] (.Constant (.int i) _ _) _, j) => if m == n then some (i, 2311 + 2 * (j - 12)) else none
  | _ => none) with
  | some r => r
  | none => (0, 0)
noncomputable def tokEntries (P : Params) : Nat → List (Option PySem.Expr) → List PySem.Expr → List DictEntry
  | i, some (.Constant (.str s) _ _) :: ks, .Name n _ :: vs => ⟨PyData.keyHash P s, .str s (bif Nat.ble i 34 then 2409 + 2 * i else 2443 + i), .int (constAt n).1 (constAt n).2⟩ :: tokEntries P (i + 1) ks vs
  | _, _, _ => []
noncomputable abbrev fnK {n : Str} {a : Arguments} {b : List Stmt} {sc : Scope} (f : Option (Str × Arguments × List Stmt × Scope)) (_ : f = some (n, a, b, sc)) (qual : Str) (pm : String) (pt : Nat) (c : Nat) : Obj :=
  { cls := .type "function", data := .func { name := n, qualname := qual, params := a, body := .stmts b, scope := sc, globals := mainGlobals, closure := [], defaults := .none, kwdefaults := .none, doc := .none, pyModule := .str (Str.ofString pm) pt, annotations := none, code := .ref c, closureTuple := .none, builtins := builtinsNs } }
noncomputable def o2 : Obj := ⟨.none, none, .dict [].toArray 0, [].toArray⟩
noncomputable def o3 (P : Params) : Obj := ⟨.type "dict", none, .dict [⟨PyData.keyHash P (Str.ofString "__name__"), .str (Str.ofString "__name__") 165, .str (Str.ofString "law_sn0078_01") 2513⟩, ⟨PyData.keyHash P (Str.ofString "__doc__"), .str (Str.ofString "__doc__") 166, .none⟩, ⟨PyData.keyHash P (Str.ofString "__package__"), .str (Str.ofString "__package__") 167, .none⟩, ⟨PyData.keyHash P (Str.ofString "__loader__"), .str (Str.ofString "__loader__") 168, .builtin "__main__.__loader__#opaque"⟩, ⟨PyData.keyHash P (Str.ofString "__spec__"), .str (Str.ofString "__spec__") 169, .none⟩, ⟨PyData.keyHash P (Str.ofString "__annotations__"), .str (Str.ofString "__annotations__") 170, .ref 6⟩, ⟨PyData.keyHash P (Str.ofString "__builtins__"), .str (Str.ofString "__builtins__") 171, .ref 4⟩, ⟨PyData.keyHash P (Str.ofString "__file__"), .str (Str.ofString "__file__") 173, .str (Str.ofString "/claim/cut.py") 172⟩, ⟨PyData.keyHash P (Str.ofString "__cached__"), .str (Str.ofString "__cached__") 174, .none⟩, ⟨PyData.keyHash P (Str.ofString "_iter_escaped_chars"), .str (Str.ofString "_iter_escaped_chars") 198, .ref 21⟩, ⟨PyData.keyHash P (Str.ofString "_strip_quoted_realnames"), .str (Str.ofString "_strip_quoted_realnames") 210, .ref 28⟩, ⟨PyData.keyHash P (Str.ofString "_check_parenthesis"), .str (Str.ofString "_check_parenthesis") 220, .ref 35⟩, ⟨PyData.keyHash P (Str.ofString "_netrclex"), .str (Str.ofString "_netrclex") 280, .ref 73⟩, ⟨PyData.keyHash P (Str.ofString "b1_set"), .str (Str.ofString "b1_set") 342, .ref 85⟩, ⟨PyData.keyHash P (Str.ofString "in_table_b1"), .str (Str.ofString "in_table_b1") 349, .ref 95⟩, ⟨PyData.keyHash P (Str.ofString "b3_exceptions"), .str (Str.ofString "b3_exceptions") 2300, .ref 96⟩, ⟨PyData.keyHash P (Str.ofString "map_table_b3"), .str (Str.ofString "map_table_b3") 2308, .ref 141⟩, ⟨PyData.keyHash P (Str.ofString "ENDMARKER"), .str (Str.ofString "ENDMARKER") 2312, .int (0) 2311⟩, ⟨PyData.keyHash P (Str.ofString "LPAR"), .str (Str.ofString "LPAR") 2314, .int (7) 2313⟩, ⟨PyData.keyHash P (Str.ofString "RPAR"), .str (Str.ofString "RPAR") 2316, .int (8) 2315⟩, ⟨PyData.keyHash P (Str.ofString "LSQB"), .str (Str.ofString "LSQB") 2318, .int (9) 2317⟩, ⟨PyData.keyHash P (Str.ofString "RSQB"), .str (Str.ofString "RSQB") 2320, .int (10) 2319⟩, ⟨PyData.keyHash P (Str.ofString "COLON"), .str (Str.ofString "COLON") 2322, .int (11) 2321⟩, ⟨PyData.keyHash P (Str.ofString "COMMA"), .str (Str.ofString "COMMA") 2324, .int (12) 2323⟩, ⟨PyData.keyHash P (Str.ofString "SEMI"), .str (Str.ofString "SEMI") 2326, .int (13) 2325⟩, ⟨PyData.keyHash P (Str.ofString "PLUS"), .str (Str.ofString "PLUS") 2328, .int (14) 2327⟩, ⟨PyData.keyHash P (Str.ofString "MINUS"), .str (Str.ofString "MINUS") 2330, .int (15) 2329⟩, ⟨PyData.keyHash P (Str.ofString "STAR"), .str (Str.ofString "STAR") 2332, .int (16) 2331⟩, ⟨PyData.keyHash P (Str.ofString "SLASH"), .str (Str.ofString "SLASH") 2334, .int (17) 2333⟩, ⟨PyData.keyHash P (Str.ofString "VBAR"), .str (Str.ofString "VBAR") 2336, .int (18) 2335⟩, ⟨PyData.keyHash P (Str.ofString "AMPER"), .str (Str.ofString "AMPER") 2338, .int (19) 2337⟩, ⟨PyData.keyHash P (Str.ofString "LESS"), .str (Str.ofString "LESS") 2340, .int (20) 2339⟩, ⟨PyData.keyHash P (Str.ofString "GREATER"), .str (Str.ofString "GREATER") 2342, .int (21) 2341⟩, ⟨PyData.keyHash P (Str.ofString "EQUAL"), .str (Str.ofString "EQUAL") 2344, .int (22) 2343⟩, ⟨PyData.keyHash P (Str.ofString "DOT"), .str (Str.ofString "DOT") 2346, .int (23) 2345⟩, ⟨PyData.keyHash P (Str.ofString "PERCENT"), .str (Str.ofString "PERCENT") 2348, .int (24) 2347⟩, ⟨PyData.keyHash P (Str.ofString "LBRACE"), .str (Str.ofString "LBRACE") 2350, .int (25) 2349⟩, ⟨PyData.keyHash P (Str.ofString "RBRACE"), .str (Str.ofString "RBRACE") 2352, .int (26) 2351⟩, ⟨PyData.keyHash P (Str.ofString "EQEQUAL"), .str (Str.ofString "EQEQUAL") 2354, .int (27) 2353⟩, ⟨PyData.keyHash P (Str.ofString "NOTEQUAL"), .str (Str.ofString "NOTEQUAL") 2356, .int (28) 2355⟩, ⟨PyData.keyHash P (Str.ofString "LESSEQUAL"), .str (Str.ofString "LESSEQUAL") 2358, .int (29) 2357⟩, ⟨PyData.keyHash P (Str.ofString "GREATEREQUAL"), .str (Str.ofString "GREATEREQUAL") 2360, .int (30) 2359⟩, ⟨PyData.keyHash P (Str.ofString "TILDE"), .str (Str.ofString "TILDE") 2362, .int (31) 2361⟩, ⟨PyData.keyHash P (Str.ofString "CIRCUMFLEX"), .str (Str.ofString "CIRCUMFLEX") 2364, .int (32) 2363⟩, ⟨PyData.keyHash P (Str.ofString "LEFTSHIFT"), .str (Str.ofString "LEFTSHIFT") 2366, .int (33) 2365⟩, ⟨PyData.keyHash P (Str.ofString "RIGHTSHIFT"), .str (Str.ofString "RIGHTSHIFT") 2368, .int (34) 2367⟩, ⟨PyData.keyHash P (Str.ofString "DOUBLESTAR"), .str (Str.ofString "DOUBLESTAR") 2370, .int (35) 2369⟩, ⟨PyData.keyHash P (Str.ofString "PLUSEQUAL"), .str (Str.ofString "PLUSEQUAL") 2372, .int (36) 2371⟩, ⟨PyData.keyHash P (Str.ofString "MINEQUAL"), .str (Str.ofString "MINEQUAL") 2374, .int (37) 2373⟩, ⟨PyData.keyHash P (Str.ofString "STAREQUAL"), .str (Str.ofString "STAREQUAL") 2376, .int (38) 2375⟩, ⟨PyData.keyHash P (Str.ofString "SLASHEQUAL"), .str (Str.ofString "SLASHEQUAL") 2378, .int (39) 2377⟩, ⟨PyData.keyHash P (Str.ofString "PERCENTEQUAL"), .str (Str.ofString "PERCENTEQUAL") 2380, .int (40) 2379⟩, ⟨PyData.keyHash P (Str.ofString "AMPEREQUAL"), .str (Str.ofString "AMPEREQUAL") 2382, .int (41) 2381⟩, ⟨PyData.keyHash P (Str.ofString "VBAREQUAL"), .str (Str.ofString "VBAREQUAL") 2384, .int (42) 2383⟩, ⟨PyData.keyHash P (Str.ofString "CIRCUMFLEXEQUAL"), .str (Str.ofString "CIRCUMFLEXEQUAL") 2386, .int (43) 2385⟩, ⟨PyData.keyHash P (Str.ofString "LEFTSHIFTEQUAL"), .str (Str.ofString "LEFTSHIFTEQUAL") 2388, .int (44) 2387⟩, ⟨PyData.keyHash P (Str.ofString "RIGHTSHIFTEQUAL"), .str (Str.ofString "RIGHTSHIFTEQUAL") 2390, .int (45) 2389⟩, ⟨PyData.keyHash P (Str.ofString "DOUBLESTAREQUAL"), .str (Str.ofString "DOUBLESTAREQUAL") 2392, .int (46) 2391⟩, ⟨PyData.keyHash P (Str.ofString "DOUBLESLASH"), .str (Str.ofString "DOUBLESLASH") 2394, .int (47) 2393⟩, ⟨PyData.keyHash P (Str.ofString "DOUBLESLASHEQUAL"), .str (Str.ofString "DOUBLESLASHEQUAL") 2396, .int (48) 2395⟩, ⟨PyData.keyHash P (Str.ofString "AT"), .str (Str.ofString "AT") 2398, .int (49) 2397⟩, ⟨PyData.keyHash P (Str.ofString "ATEQUAL"), .str (Str.ofString "ATEQUAL") 2400, .int (50) 2399⟩, ⟨PyData.keyHash P (Str.ofString "RARROW"), .str (Str.ofString "RARROW") 2402, .int (51) 2401⟩, ⟨PyData.keyHash P (Str.ofString "ELLIPSIS"), .str (Str.ofString "ELLIPSIS") 2404, .int (52) 2403⟩, ⟨PyData.keyHash P (Str.ofString "COLONEQUAL"), .str (Str.ofString "COLONEQUAL") 2406, .int (53) 2405⟩, ⟨PyData.keyHash P (Str.ofString "EXCLAMATION"), .str (Str.ofString "EXCLAMATION") 2408, .int (54) 2407⟩, ⟨PyData.keyHash P (Str.ofString "EXACT_TOKEN_TYPES"), .str (Str.ofString "EXACT_TOKEN_TYPES") 2505, .ref 142⟩, ⟨PyData.keyHash P (Str.ofString "ISEOF"), .str (Str.ofString "ISEOF") 2512, .ref 151⟩, ⟨PyData.keyHash P (Str.ofString "_law_order"), .str (Str.ofString "_law_order") 2528, .ref 158⟩, ⟨PyData.keyHash P (Str.ofString "_law_card"), .str (Str.ofString "_law_card") 2545, .ref 165⟩, ⟨PyData.keyHash P (Str.ofString "_law_reader"), .str (Str.ofString "_law_reader") 2554, .ref 172⟩, ⟨PyData.keyHash P (Str.ofString "_law_number"), .str (Str.ofString "_law_number") 2560, .ref 177⟩, ⟨PyData.keyHash P (Str.ofString "_law_numbers"), .str (Str.ofString "_law_numbers") 2566, .ref 182⟩, ⟨PyData.keyHash P (Str.ofString "_law_falls"), .str (Str.ofString "_law_falls") 2579, .ref 189⟩, ⟨PyData.keyHash P (Str.ofString "_law_taken"), .str (Str.ofString "_law_taken") 2585, .ref 194⟩, ⟨PyData.keyHash P (Str.ofString "law"), .str (Str.ofString "law") 2591, .ref 199⟩].toArray 76, [].toArray⟩
noncomputable def o15 : Obj := ⟨.type "tuple", none, .seq [].toArray 0, [].toArray⟩
noncomputable def o17 : Obj := ⟨.type "tuple", none, .seq [.str (Str.ofString "addr") 192, .str (Str.ofString "pos") 193, .str (Str.ofString "escape") 194, .str (Str.ofString "ch") 195].toArray 0, [].toArray⟩
noncomputable def o18 : Obj := ⟨.type "tuple", none, .seq [].toArray 0, [].toArray⟩
noncomputable def o20 : Obj := ⟨.type "code", none, .fields [.str (Str.ofString "_iter_escaped_chars") 189, .str (Str.ofString "_iter_escaped_chars") 190, .str (Str.ofString "/claim/cut.py") 191, .int (2) 0, .int (1) 0, .int (0) 0, .int (0) 0, .int (35) 0, .ref 15, .bool true, .int (181) 0, .ref 16, .none, .ref 17, .ref 18, .ref 19, .int (196) 0, .int (2) 0, .str (Str.ofString "/claim/cut.py") 197].toArray, [].toArray⟩
noncomputable def o21 : Obj := fnK (fnAt 1) (by rfl) (Str.ofString "_iter_escaped_chars") "cpy313.email.utils" 187 20
noncomputable def o22 : Obj := ⟨.type "tuple", none, .seq [].toArray 0, [].toArray⟩
noncomputable def o24 : Obj := ⟨.type "tuple", none, .seq [.str (Str.ofString "addr") 202, .str (Str.ofString "start") 203, .str (Str.ofString "open_pos") 204, .str (Str.ofString "result") 205, .str (Str.ofString "pos") 206, .str (Str.ofString "ch") 207].toArray 0, [].toArray⟩
noncomputable def o25 : Obj := ⟨.type "tuple", none, .seq [].toArray 0, [].toArray⟩
noncomputable def o27 : Obj := ⟨.type "code", none, .fields [.str (Str.ofString "_strip_quoted_realnames") 199, .str (Str.ofString "_strip_quoted_realnames") 200, .str (Str.ofString "/claim/cut.py") 201, .int (15) 0, .int (1) 0, .int (0) 0, .int (0) 0, .int (3) 0, .ref 22, .bool true, .int (181) 0, .ref 23, .none, .ref 24, .ref 25, .ref 26, .int (208) 0, .int (15) 0, .str (Str.ofString "/claim/cut.py") 209].toArray, [].toArray⟩
noncomputable def o28 : Obj := fnK (fnAt 2) (by rfl) (Str.ofString "_strip_quoted_realnames") "cpy313.email.utils" 187 27
noncomputable def o29 : Obj := ⟨.type "tuple", none, .seq [].toArray 0, [].toArray⟩
noncomputable def o31 : Obj := ⟨.type "tuple", none, .seq [.str (Str.ofString "addr") 214, .str (Str.ofString "opens") 215, .str (Str.ofString "pos") 216, .str (Str.ofString "ch") 217].toArray 0, [].toArray⟩
noncomputable def o32 : Obj := ⟨.type "tuple", none, .seq [].toArray 0, [].toArray⟩
noncomputable def o34 : Obj := ⟨.type "code", none, .fields [.str (Str.ofString "_check_parenthesis") 211, .str (Str.ofString "_check_parenthesis") 212, .str (Str.ofString "/claim/cut.py") 213, .int (33) 0, .int (1) 0, .int (0) 0, .int (0) 0, .int (3) 0, .ref 29, .bool true, .int (181) 0, .ref 30, .none, .ref 31, .ref 32, .ref 33, .int (218) 0, .int (33) 0, .str (Str.ofString "/claim/cut.py") 219].toArray, [].toArray⟩
noncomputable def o35 : Obj := fnK (fnAt 3) (by rfl) (Str.ofString "_check_parenthesis") "cpy313.email.utils" 187 34
noncomputable def o43 : Obj := ⟨.type "tuple", none, .seq [].toArray 0, [].toArray⟩
noncomputable def o45 : Obj := ⟨.type "tuple", none, .seq [.str (Str.ofString "self") 238, .str (Str.ofString "fp") 239].toArray 0, [].toArray⟩
noncomputable def o46 : Obj := ⟨.type "tuple", none, .seq [].toArray 0, [].toArray⟩
noncomputable def o48 : Obj := ⟨.type "code", none, .fields [.str (Str.ofString "__init__") 235, .str (Str.ofString "_netrclex.__init__") 236, .str (Str.ofString "/claim/cut.py") 237, .int (47) 0, .int (2) 0, .int (0) 0, .int (0) 0, .int (3) 0, .ref 43, .bool true, .int (181) 0, .ref 44, .none, .ref 45, .ref 46, .ref 47, .int (240) 0, .int (47) 0, .str (Str.ofString "/claim/cut.py") 241].toArray, [].toArray⟩
noncomputable def o49 : Obj := fnK (methAt 0) (by rfl) (Str.ofString "_netrclex.__init__") "cpy313.netrc" 221 48
noncomputable def o50 : Obj := ⟨.type "tuple", none, .seq [].toArray 0, [].toArray⟩
noncomputable def o52 : Obj := ⟨.type "tuple", none, .seq [.str (Str.ofString "self") 246, .str (Str.ofString "ch") 247].toArray 0, [].toArray⟩
noncomputable def o53 : Obj := ⟨.type "tuple", none, .seq [].toArray 0, [].toArray⟩
noncomputable def o55 : Obj := ⟨.type "code", none, .fields [.str (Str.ofString "_read_char") 243, .str (Str.ofString "_netrclex._read_char") 244, .str (Str.ofString "/claim/cut.py") 245, .int (53) 0, .int (1) 0, .int (0) 0, .int (0) 0, .int (3) 0, .ref 50, .bool true, .int (181) 0, .ref 51, .none, .ref 52, .ref 53, .ref 54, .int (248) 0, .int (53) 0, .str (Str.ofString "/claim/cut.py") 249].toArray, [].toArray⟩
noncomputable def o56 : Obj := fnK (methAt 1) (by rfl) (Str.ofString "_netrclex._read_char") "cpy313.netrc" 221 55
noncomputable def o57 : Obj := ⟨.type "tuple", none, .seq [].toArray 0, [].toArray⟩
noncomputable def o59 : Obj := ⟨.type "tuple", none, .seq [.str (Str.ofString "self") 254, .str (Str.ofString "token") 255, .str (Str.ofString "fiter") 256, .str (Str.ofString "ch") 257].toArray 0, [].toArray⟩
noncomputable def o60 : Obj := ⟨.type "tuple", none, .seq [].toArray 0, [].toArray⟩
noncomputable def o62 : Obj := ⟨.type "code", none, .fields [.str (Str.ofString "get_token") 251, .str (Str.ofString "_netrclex.get_token") 252, .str (Str.ofString "/claim/cut.py") 253, .int (59) 0, .int (1) 0, .int (0) 0, .int (0) 0, .int (3) 0, .ref 57, .bool true, .int (181) 0, .ref 58, .none, .ref 59, .ref 60, .ref 61, .int (258) 0, .int (59) 0, .str (Str.ofString "/claim/cut.py") 259].toArray, [].toArray⟩
noncomputable def o63 : Obj := fnK (methAt 2) (by rfl) (Str.ofString "_netrclex.get_token") "cpy313.netrc" 221 62
noncomputable def o64 : Obj := ⟨.type "tuple", none, .seq [].toArray 0, [].toArray⟩
noncomputable def o66 : Obj := ⟨.type "tuple", none, .seq [.str (Str.ofString "self") 264, .str (Str.ofString "token") 265].toArray 0, [].toArray⟩
noncomputable def o67 : Obj := ⟨.type "tuple", none, .seq [].toArray 0, [].toArray⟩
noncomputable def o69 : Obj := ⟨.type "code", none, .fields [.str (Str.ofString "push_token") 261, .str (Str.ofString "_netrclex.push_token") 262, .str (Str.ofString "/claim/cut.py") 263, .int (86) 0, .int (2) 0, .int (0) 0, .int (0) 0, .int (3) 0, .ref 64, .bool true, .int (181) 0, .ref 65, .none, .ref 66, .ref 67, .ref 68, .int (266) 0, .int (86) 0, .str (Str.ofString "/claim/cut.py") 267].toArray, [].toArray⟩
noncomputable def o70 : Obj := fnK (methAt 3) (by rfl) (Str.ofString "_netrclex.push_token") "cpy313.netrc" 221 69
noncomputable def o71 : Obj := ⟨.type "tuple", none, .seq [.str (Str.ofString "instream") 269, .str (Str.ofString "lineno") 270, .str (Str.ofString "pushback") 271, .str (Str.ofString "whitespace") 272].toArray 0, [].toArray⟩
noncomputable def o72 (P : Params) : Obj := ⟨.type "dict", none, .dict [⟨PyData.keyHash P (Str.ofString "__module__"), .str (Str.ofString "__module__") 230, .str (Str.ofString "cpy313.netrc") 221⟩, ⟨PyData.keyHash P (Str.ofString "__firstlineno__"), .str (Str.ofString "__firstlineno__") 234, .int (45) 233⟩, ⟨PyData.keyHash P (Str.ofString "__init__"), .str (Str.ofString "__init__") 242, .ref 49⟩, ⟨PyData.keyHash P (Str.ofString "_read_char"), .str (Str.ofString "_read_char") 250, .ref 56⟩, ⟨PyData.keyHash P (Str.ofString "get_token"), .str (Str.ofString "get_token") 260, .ref 63⟩, ⟨PyData.keyHash P (Str.ofString "push_token"), .str (Str.ofString "push_token") 268, .ref 70⟩, ⟨PyData.keyHash P (Str.ofString "__static_attributes__"), .str (Str.ofString "__static_attributes__") 273, .ref 71⟩, ⟨PyData.keyHash P (Str.ofString "__dict__"), .str (Str.ofString "__dict__") 275, .ref 74⟩, ⟨PyData.keyHash P (Str.ofString "__weakref__"), .str (Str.ofString "__weakref__") 277, .ref 75⟩, ⟨PyData.keyHash P (Str.ofString "__doc__"), .str (Str.ofString "__doc__") 278, .none⟩].toArray 4, [].toArray⟩
noncomputable def o73 : Obj := ⟨.type "type", none, .cls { name := (Str.ofString "_netrclex"), bases := [.type "object"], mro := [.ref 73, .type "object"], ns := 72, qualname := (Str.ofString "_netrclex"), hasDict := true, slotNames := [], subclasses := [], abstract := false, collection := none, hasDel := false }, [none, none, some (.str (Str.ofString "_netrclex") 223), some (.str (Str.ofString "_netrclex") 231), some (.builtin "object.__new__"), some (.bool true)].toArray⟩
noncomputable def o74 : Obj := ⟨.type "getset_descriptor", none, .fields [.str (Str.ofString "__dict__") 274, .ref 73, .builtin "function.__dict__", .builtin "function.__dict__#set"].toArray, [].toArray⟩
noncomputable def o75 : Obj := ⟨.type "getset_descriptor", none, .fields [.str (Str.ofString "__weakref__") 276, .ref 73, .builtin "ExceptionGroup.__weakref__", .none].toArray, [].toArray⟩
noncomputable def o85 (P : Params) : Obj := ⟨.type "set", none, .set [(65024, .int (65024) 299), (65025, .int (65025) 300), (65026, .int (65026) 301), (65027, .int (65027) 302), (65028, .int (65028) 303), (65029, .int (65029) 304), (6150, .int (6150) 285), (65030, .int (65030) 305), (65031, .int (65031) 306), (65032, .int (65032) 307), (65033, .int (65033) 308), (6155, .int (6155) 286), (6156, .int (6156) 287), (6157, .int (6157) 288), (8203, .int (8203) 289), (8204, .int (8204) 290), (8205, .int (8205) 291), (65034, .int (65034) 309), (65035, .int (65035) 310), (65036, .int (65036) 311), (65037, .int (65037) 312), (65038, .int (65038) 313), (65039, .int (65039) 314), (173, .int (173) 283), (847, .int (847) 284), (8288, .int (8288) 292), (65279, .int (65279) 293)].toArray 29 { mask := 127, place := [0, 1, 2, 3, 4, 5, 6, 7, 8, 9, 10, 11, 12, 13, 14, 15, 16, 17, 18, 19, 20, 21, 22, 45, 79, 96, 127].toArray, dummies := #[], finger := 0, led := !P.followText "set-order", moves := 2, plain := true }, [].toArray⟩
noncomputable def o89 : Obj := ⟨.type "tuple", none, .seq [].toArray 0, [].toArray⟩
noncomputable def o91 : Obj := ⟨.type "tuple", none, .seq [.str (Str.ofString "code") 346].toArray 0, [].toArray⟩
noncomputable def o92 : Obj := ⟨.type "tuple", none, .seq [].toArray 0, [].toArray⟩
noncomputable def o94 : Obj := ⟨.type "code", none, .fields [.str (Str.ofString "in_table_b1") 343, .str (Str.ofString "in_table_b1") 344, .str (Str.ofString "/claim/cut.py") 345, .int (90) 0, .int (1) 0, .int (0) 0, .int (0) 0, .int (3) 0, .ref 89, .bool true, .int (181) 0, .ref 90, .none, .ref 91, .ref 92, .ref 93, .int (347) 0, .int (90) 0, .str (Str.ofString "/claim/cut.py") 348].toArray, [].toArray⟩
noncomputable def o95 : Obj := fnK (fnAt 8) (by rfl) (Str.ofString "in_table_b1") "cpy313.stringprep" 281 94
noncomputable def o96 : Obj := ⟨.type "dict", none, .dict (b3Entries 0 (dictAt 9).1 (dictAt 9).2).toArray 650, [].toArray⟩
noncomputable def o135 : Obj := ⟨.type "tuple", none, .seq [].toArray 0, [].toArray⟩
noncomputable def o137 : Obj := ⟨.type "tuple", none, .seq [.str (Str.ofString "code") 2304, .str (Str.ofString "r") 2305].toArray 0, [].toArray⟩
noncomputable def o138 : Obj := ⟨.type "tuple", none, .seq [].toArray 0, [].toArray⟩
noncomputable def o140 : Obj := ⟨.type "code", none, .fields [.str (Str.ofString "map_table_b3") 2301, .str (Str.ofString "map_table_b3") 2302, .str (Str.ofString "/claim/cut.py") 2303, .int (93) 0, .int (1) 0, .int (0) 0, .int (0) 0, .int (3) 0, .ref 135, .bool true, .int (181) 0, .ref 136, .none, .ref 137, .ref 138, .ref 139, .int (2306) 0, .int (93) 0, .str (Str.ofString "/claim/cut.py") 2307].toArray, [].toArray⟩
noncomputable def o141 : Obj := fnK (fnAt 10) (by rfl) (Str.ofString "map_table_b3") "cpy313.stringprep" 281 140
noncomputable def o142 (P : Params) : Obj := ⟨.type "dict", none, .dict (tokEntries P 0 (dictAt 61).1 (dictAt 61).2).toArray 48, [].toArray⟩
noncomputable def o145 : Obj := ⟨.type "tuple", none, .seq [].toArray 0, [].toArray⟩
noncomputable def o147 : Obj := ⟨.type "tuple", none, .seq [.str (Str.ofString "x") 2509].toArray 0, [].toArray⟩
noncomputable def o148 : Obj := ⟨.type "tuple", none, .seq [].toArray 0, [].toArray⟩
noncomputable def o150 : Obj := ⟨.type "code", none, .fields [.str (Str.ofString "ISEOF") 2506, .str (Str.ofString "ISEOF") 2507, .str (Str.ofString "/claim/cut.py") 2508, .int (149) 0, .int (1) 0, .int (0) 0, .int (0) 0, .int (3) 0, .ref 145, .bool true, .int (181) 0, .ref 146, .none, .ref 147, .ref 148, .ref 149, .int (2510) 0, .int (149) 0, .str (Str.ofString "/claim/cut.py") 2511].toArray, [].toArray⟩
noncomputable def o151 : Obj := fnK (fnAt 62) (by rfl) (Str.ofString "ISEOF") "cpy313.token" 2309 150
noncomputable def o152 : Obj := ⟨.type "tuple", none, .seq [].toArray 0, [].toArray⟩
noncomputable def o154 : Obj := ⟨.type "tuple", none, .seq [.str (Str.ofString "row") 2518, .str (Str.ofString "size") 2519, .str (Str.ofString "cut") 2520, .str (Str.ofString "dealt") 2521, .str (Str.ofString "left") 2522, .str (Str.ofString "order") 2523, .str (Str.ofString "k") 2524, .str (Str.ofString "place") 2525].toArray 0, [].toArray⟩
noncomputable def o155 : Obj := ⟨.type "tuple", none, .seq [].toArray 0, [].toArray⟩
noncomputable def o157 : Obj := ⟨.type "code", none, .fields [.str (Str.ofString "_law_order") 2515, .str (Str.ofString "_law_order") 2516, .str (Str.ofString "/claim/cut.py") 2517, .int (152) 0, .int (2) 0, .int (0) 0, .int (0) 0, .int (3) 0, .ref 152, .bool true, .int (181) 0, .ref 153, .none, .ref 154, .ref 155, .ref 156, .int (2526) 0, .int (152) 0, .str (Str.ofString "/claim/cut.py") 2527].toArray, [].toArray⟩
noncomputable def o158 : Obj := fnK (fnAt 64) (by rfl) (Str.ofString "_law_order") "law_sn0078_01" 2513 157
noncomputable def o159 : Obj := ⟨.type "tuple", none, .seq [].toArray 0, [].toArray⟩
noncomputable def o161 : Obj := ⟨.type "tuple", none, .seq [.str (Str.ofString "number") 2532, .str (Str.ofString "x") 2533, .str (Str.ofString "y") 2534, .str (Str.ofString "unseen") 2535, .str (Str.ofString "signs") 2536, .str (Str.ofString "starts") 2537, .str (Str.ofString "sign") 2538, .str (Str.ofString "place") 2539, .str (Str.ofString "word") 2540, .str (Str.ofString "text") 2541, .str (Str.ofString "k") 2542].toArray 0, [].toArray⟩
noncomputable def o162 : Obj := ⟨.type "tuple", none, .seq [].toArray 0, [].toArray⟩
noncomputable def o164 : Obj := ⟨.type "code", none, .fields [.str (Str.ofString "_law_card") 2529, .str (Str.ofString "_law_card") 2530, .str (Str.ofString "/claim/cut.py") 2531, .int (170) 0, .int (3) 0, .int (0) 0, .int (0) 0, .int (3) 0, .ref 159, .bool true, .int (181) 0, .ref 160, .none, .ref 161, .ref 162, .ref 163, .int (2543) 0, .int (170) 0, .str (Str.ofString "/claim/cut.py") 2544].toArray, [].toArray⟩
noncomputable def o165 : Obj := fnK (fnAt 65) (by rfl) (Str.ofString "_law_card") "law_sn0078_01" 2513 164
noncomputable def o166 : Obj := ⟨.type "tuple", none, .seq [].toArray 0, [].toArray⟩
noncomputable def o168 : Obj := ⟨.type "tuple", none, .seq [.str (Str.ofString "text") 2549, .str (Str.ofString "stream") 2550].toArray 0, [].toArray⟩
noncomputable def o169 : Obj := ⟨.type "tuple", none, .seq [.str (Str.ofString "left") 2551].toArray 0, [].toArray⟩
noncomputable def o171 : Obj := ⟨.type "code", none, .fields [.str (Str.ofString "_law_reader") 2546, .str (Str.ofString "_law_reader") 2547, .str (Str.ofString "/claim/cut.py") 2548, .int (183) 0, .int (1) 0, .int (0) 0, .int (0) 0, .int (3) 0, .ref 166, .bool true, .int (181) 0, .ref 167, .none, .ref 168, .ref 169, .ref 170, .int (2552) 0, .int (183) 0, .str (Str.ofString "/claim/cut.py") 2553].toArray, [].toArray⟩
noncomputable def o172 : Obj := fnK (fnAt 66) (by rfl) (Str.ofString "_law_reader") "law_sn0078_01" 2513 171
noncomputable def o173 : Obj := ⟨.type "tuple", none, .seq [].toArray 0, [].toArray⟩
noncomputable def o176 : Obj := ⟨.type "code", none, .fields [.str (Str.ofString "_law_number") 2555, .str (Str.ofString "_law_number") 2556, .str (Str.ofString "/claim/cut.py") 2557, .int (189) 0, .int (1) 0, .int (0) 0, .int (0) 0, .int (3) 0, .ref 173, .bool true, .int (181) 0, .ref 174, .none, .none, .none, .ref 175, .int (2558) 0, .int (189) 0, .str (Str.ofString "/claim/cut.py") 2559].toArray, [].toArray⟩
noncomputable def o177 : Obj := fnK (fnAt 67) (by rfl) (Str.ofString "_law_number") "law_sn0078_01" 2513 176
noncomputable def o178 : Obj := ⟨.type "tuple", none, .seq [].toArray 0, [].toArray⟩
noncomputable def o181 : Obj := ⟨.type "code", none, .fields [.str (Str.ofString "_law_numbers") 2561, .str (Str.ofString "_law_numbers") 2562, .str (Str.ofString "/claim/cut.py") 2563, .int (196) 0, .int (1) 0, .int (0) 0, .int (0) 0, .int (3) 0, .ref 178, .bool true, .int (181) 0, .ref 179, .none, .none, .none, .ref 180, .int (2564) 0, .int (196) 0, .str (Str.ofString "/claim/cut.py") 2565].toArray, [].toArray⟩
noncomputable def o182 : Obj := fnK (fnAt 68) (by rfl) (Str.ofString "_law_numbers") "law_sn0078_01" 2513 181
noncomputable def o183 : Obj := ⟨.type "tuple", none, .seq [].toArray 0, [].toArray⟩
noncomputable def o185 : Obj := ⟨.type "tuple", none, .seq [.str (Str.ofString "one") 2570, .str (Str.ofString "two") 2571, .str (Str.ofString "numbers") 2572, .str (Str.ofString "dealt") 2573, .str (Str.ofString "left") 2574, .str (Str.ofString "number") 2575, .str (Str.ofString "word") 2576].toArray 0, [].toArray⟩
noncomputable def o186 : Obj := ⟨.type "tuple", none, .seq [].toArray 0, [].toArray⟩
noncomputable def o188 : Obj := ⟨.type "code", none, .fields [.str (Str.ofString "_law_falls") 2567, .str (Str.ofString "_law_falls") 2568, .str (Str.ofString "/claim/cut.py") 2569, .int (206) 0, .int (3) 0, .int (0) 0, .int (0) 0, .int (3) 0, .ref 183, .bool true, .int (181) 0, .ref 184, .none, .ref 185, .ref 186, .ref 187, .int (2577) 0, .int (206) 0, .str (Str.ofString "/claim/cut.py") 2578].toArray, [].toArray⟩
noncomputable def o189 : Obj := fnK (fnAt 69) (by rfl) (Str.ofString "_law_falls") "law_sn0078_01" 2513 188
noncomputable def o190 : Obj := ⟨.type "tuple", none, .seq [].toArray 0, [].toArray⟩
noncomputable def o193 : Obj := ⟨.type "code", none, .fields [.str (Str.ofString "_law_taken") 2580, .str (Str.ofString "_law_taken") 2581, .str (Str.ofString "/claim/cut.py") 2582, .int (216) 0, .int (4) 0, .int (0) 0, .int (0) 0, .int (3) 0, .ref 190, .bool true, .int (181) 0, .ref 191, .none, .none, .none, .ref 192, .int (2583) 0, .int (216) 0, .str (Str.ofString "/claim/cut.py") 2584].toArray, [].toArray⟩
noncomputable def o194 : Obj := fnK (fnAt 70) (by rfl) (Str.ofString "_law_taken") "law_sn0078_01" 2513 193
noncomputable def o195 : Obj := ⟨.type "tuple", none, .seq [].toArray 0, [].toArray⟩
noncomputable def o198 : Obj := ⟨.type "code", none, .fields [.str (Str.ofString "law") 2586, .str (Str.ofString "law") 2587, .str (Str.ofString "/claim/cut.py") 2588, .int (230) 0, .int (1) 0, .int (0) 0, .int (0) 0, .int (3) 0, .ref 195, .bool true, .int (181) 0, .ref 196, .none, .none, .none, .ref 197, .int (2589) 0, .int (230) 0, .str (Str.ofString "/claim/cut.py") 2590].toArray, [].toArray⟩
noncomputable def o199 : Obj := fnK (fnAt 71) (by rfl) (Str.ofString "law") "law_sn0078_01" 2513 198
noncomputable def K0 : Params → Frag := fun P => (nat_lit 2, o2) :: (nat_lit 3, o3 P) :: (nat_lit 15, o15) :: (nat_lit 17, o17) :: (nat_lit 18, o18) :: (nat_lit 20, o20) :: (nat_lit 21, o21) :: (nat_lit 22, o22) :: (nat_lit 24, o24) :: (nat_lit 25, o25) :: (nat_lit 27, o27) :: (nat_lit 28, o28) :: (nat_lit 29, o29) :: (nat_lit 31, o31) :: (nat_lit 32, o32) :: (nat_lit 34, o34) :: (nat_lit 35, o35) :: (nat_lit 43, o43) :: (nat_lit 45, o45) :: (nat_lit 46, o46) :: (nat_lit 48, o48) :: (nat_lit 49, o49) :: (nat_lit 50, o50) :: (nat_lit 52, o52) :: (nat_lit 53, o53) :: (nat_lit 55, o55) :: (nat_lit 56, o56) :: (nat_lit 57, o57) :: (nat_lit 59, o59) :: (nat_lit 60, o60) :: (nat_lit 62, o62) :: (nat_lit 63, o63) :: (nat_lit 64, o64) :: (nat_lit 66, o66) :: (nat_lit 67, o67) :: (nat_lit 69, o69) :: (nat_lit 70, o70) :: (nat_lit 71, o71) :: (nat_lit 72, o72 P) :: (nat_lit 73, o73) :: (nat_lit 74, o74) :: (nat_lit 75, o75) :: (nat_lit 85, o85 P) :: (nat_lit 89, o89) :: (nat_lit 91, o91) :: (nat_lit 92, o92) :: (nat_lit 94, o94) :: (nat_lit 95, o95) :: (nat_lit 96, o96) :: (nat_lit 135, o135) :: (nat_lit 137, o137) :: (nat_lit 138, o138) :: (nat_lit 140, o140) :: (nat_lit 141, o141) :: (nat_lit 142, o142 P) :: (nat_lit 145, o145) :: (nat_lit 147, o147) :: (nat_lit 148, o148) :: (nat_lit 150, o150) :: (nat_lit 151, o151) :: (nat_lit 152, o152) :: (nat_lit 154, o154) :: (nat_lit 155, o155) :: (nat_lit 157, o157) :: (nat_lit 158, o158) :: (nat_lit 159, o159) :: (nat_lit 161, o161) :: (nat_lit 162, o162) :: (nat_lit 164, o164) :: (nat_lit 165, o165) :: (nat_lit 166, o166) :: (nat_lit 168, o168) :: (nat_lit 169, o169) :: (nat_lit 171, o171) :: (nat_lit 172, o172) :: (nat_lit 173, o173) :: (nat_lit 176, o176) :: (nat_lit 177, o177) :: (nat_lit 178, o178) :: (nat_lit 181, o181) :: (nat_lit 182, o182) :: (nat_lit 183, o183) :: (nat_lit 185, o185) :: (nat_lit 186, o186) :: (nat_lit 188, o188) :: (nat_lit 189, o189) :: (nat_lit 190, o190) :: (nat_lit 193, o193) :: (nat_lit 194, o194) :: (nat_lit 195, o195) :: (nat_lit 198, o198) :: (nat_lit 199, o199) :: []
noncomputable abbrev denQ (tb : String → Option Builtin) : Code → Sem Fin := PySem.W.Fast.tw11892475500146522536 tb
theorem denQ_eq : @denote = @denQ := PySem.W.Fast.te11892475500146522536
noncomputable abbrev treeQ : String → Option Builtin := PySem.W.Fast.tw14364793385576792824
theorem treeQ_eq : treeTable = treeQ := PySem.W.Fast.te14364793385576792824
noncomputable abbrev execsQ := @PySem.W.Fast.tw12563942051412417395
theorem execsQ_eq : @execs = @execsQ := PySem.W.Fast.te12563942051412417395
noncomputable abbrev blockQ := @PySem.W.Fast.tw1066825118222455980
theorem blockQ_eq : @blockStart = @blockQ := PySem.W.Fast.te1066825118222455980
noncomputable abbrev soleQ := @PySem.W.Fast.tw7783108440312521181
theorem soleQ_eq : @swapsWithSole = @soleQ := PySem.W.Fast.te7783108440312521181
noncomputable abbrev storesQ := @PySem.W.Fast.tw2470068587113613483
theorem storesQ_eq : @assignStores = @storesQ := PySem.W.Fast.te2470068587113613483
noncomputable abbrev swapQ := @PySem.W.Fast.tw4016559146275205325
theorem swapQ_eq : @swappedStores = @swapQ := PySem.W.Fast.te4016559146275205325
noncomputable abbrev eachQ := @PySem.W.Fast.tw15628205474173192105
theorem eachQ_eq : @assignEach = @eachQ := PySem.W.Fast.te15628205474173192105
noncomputable def bootTree (P : Params) : BT := (((((((((((BT.nil.ins 0 (boot_o_0 P)).ins 1 (boot_o_1 P)).ins 2 (boot_o_2 P)).ins 3 (boot_o_3 P)).ins 4 (boot_o_4 P)).ins 5 (boot_o_5 P)).ins 6 (boot_o_6 P)).ins 7 (boot_o_7 P)).ins 8 (boot_o_8 P)).ins 9 (boot_o_9 P)).ins 10 (boot_o_10 P))
noncomputable def ctx0 : PySem.Ctx := ⟨.builtin "claim.caller" {}, none, none, [], none⟩
noncomputable def preT : Sem (Value × Addr) := do
  let code ← moduleCode pw_sn0078_01.main
  let frame ← newBodyFrame code mainNs mainNs
  return (code, frame)
noncomputable abbrev evQ (w : World) {α : Type} (Γ : PySem.Ctx) (m : Sem α) := evT ⟨pw_sn0078_01, w.params⟩ (evC (denQ treeQ) ⟨pw_sn0078_01, w.params⟩ 60) Γ m
noncomputable def env0 : Env := { scope := pw_sn0078_01.main.scope, locals := mainNs, globals := mainNs, cells := [], code := .ref 13, frame := some 14 }
noncomputable def blk : List Stmt := behindTheImports pw_sn0078_01
noncomputable def ctx1 : PySem.Ctx := ctx0.enter (.body blk env0) none default
noncomputable def st9 : List PySem.Expr × List (Option PySem.Expr) × List PySem.Expr × Pos × Pos := match pw_sn0078_01.main.body[(9 : Nat)]? with
  | some (.Assign ts (.Dict ks vs p) q) => (ts, ks, vs, p, q)
  | _ => ([], [], [], default, default)
noncomputable def ts9 := st9.1
noncomputable def ks9 := st9.2.1
noncomputable def vs9 := st9.2.2.1
noncomputable def p9 := st9.2.2.2.1
noncomputable def q9 := st9.2.2.2.2
noncomputable def val9 : PySem.Expr := .Dict ks9 vs9 p9
noncomputable def kvOf : List (Option PySem.Expr) → List PySem.Expr → List (Int × Str)
  | some (.Constant (.int k) _ _) :: ks, .Constant (.str s) _ _ :: vs => (k, s) :: kvOf ks vs
  | _, _ => []
noncomputable def kv9 : List (Int × Str) := kvOf ks9 vs9
noncomputable def runs17 {α : Type} : Nat → List α → List (List α)
  | 0, _ => []
  | n + 1, l => l.take 17 :: runs17 n (l.drop 17)
noncomputable def b3Objs : List Obj := o96 :: (chunkObjs 401 (runs17 37 (kv9.drop 17)) ++ [dObj (entS 2288 (kv9.drop 646)) 4])
noncomputable def insAll : BT → Nat → List Obj → Option (BT × Nat)
  | t, n, [] => some (t, n)
  | t, n, o :: r => match ((t.ins n o).get n).isSome with
    | true => fz (n + 1) fun n' => insAll (t.ins n o) n' r
    | false => none
noncomputable def thn {α β : Type} (o : Option (Out α)) (f : α → Pos → BT → Nat → Nat → Option (Out β)) : Option (Out β) := match o with
  | some (.ok a p t n k) => f a p t n k
  | _ => none
noncomputable def preO (w : World) := evQ w ctx0 preT default (bootTree w.params) 11 boot_toks
noncomputable def finA (w : World) : Option (Out Bool) := thn (preO w) fun _ p t n k => thn (evQ w ctx1 (do blockQ blk env0; execsQ (blk.take 9) env0) p t n k) fun f p t n k => match f with
  | .next => evQ w ctx1 (do standAt q9; soleQ ts9 val9 q9.line env0) p t n k
  | _ => none
noncomputable def finB (w : World) (p : Pos) : Option (Out Flow) := thn (finA w) fun b _ t n k => match b with
  | true => none
  | false => match and (Nat.beq k 350) (Nat.beq n 96) with
    | false => none
    | true => match insAll t n b3Objs with
      | none => none
      | some (t', n') => thn (evQ w ctx1 (do let r ← swapQ ts9 val9 env0; storesQ env0 (.ref n) r ((eachQ ts9 env0).map (·.2))) p t' n' 2300) fun f p t n k => match f with
        | .next => evQ w ctx1 (execsQ (blk.drop 10) env0) p t n k
        | _ => none
noncomputable def outInfo {α : Type} : Option (Out α) → Option (Nat × Nat)
  | some (.ok _ _ _ n k) => some (n, k)
  | _ => none
noncomputable def outVal {α : Type} : Option (Out α) → Option (α × Pos)
  | some (.ok a p _ _ _) => some (a, p)
  | _ => none
noncomputable def qL : Program := view pw_sn0078_01 [71]
noncomputable def looseL : List Str := ["_iter_escaped_chars", "_strip_quoted_realnames", "_check_parenthesis", "_netrclex", "b1_set", "in_table_b1", "b3_exceptions", "map_table_b3", "ENDMARKER", "LPAR", "RPAR", "LSQB", "RSQB", "COLON", "COMMA", "SEMI", "PLUS", "MINUS", "STAR", "SLASH", "VBAR", "AMPER", "LESS", "GREATER", "EQUAL", "DOT", "PERCENT", "LBRACE", "RBRACE", "EQEQUAL", "NOTEQUAL", "LESSEQUAL", "GREATEREQUAL", "TILDE", "CIRCUMFLEX", "LEFTSHIFT", "RIGHTSHIFT", "DOUBLESTAR", "PLUSEQUAL", "MINEQUAL", "STAREQUAL", "SLASHEQUAL", "PERCENTEQUAL", "AMPEREQUAL", "VBAREQUAL", "CIRCUMFLEXEQUAL", "LEFTSHIFTEQUAL", "RIGHTSHIFTEQUAL", "DOUBLESTAREQUAL", "DOUBLESLASH", "DOUBLESLASHEQUAL", "AT", "ATEQUAL", "RARROW", "ELLIPSIS", "COLONEQUAL", "EXCLAMATION", "EXACT_TOKEN_TYPES", "ISEOF", "_law_order", "_law_card", "_law_reader", "_law_number", "_law_numbers", "_law_falls", "_law_taken"].map Str.ofString
noncomputable abbrev seenQ := @PySem.W.Fast.tw4187177175401517315
theorem seenQ_eq : @openSeen = @seenQ := PySem.W.Fast.te4187177175401517315
noncomputable def lookS (P : Params) (s : Shared) : Bool :=
  staticsOk (importedModules pw_sn0078_01.main.body) (boot_heap P) s.heap && namesBound pw_sn0078_01 s.heap && gensDone s && laidKept (boot_heap P) s.heap
noncomputable def K1 : Params → Frag := fun P => (nat_lit 167, ⟨.none, none, .fields [].toArray, [].toArray⟩) :: K0 P
noncomputable def lookF (P : Params) (os : OsState) (o : Option (Out Flow)) := match o with
  | some (.ok .next _ t n k) => some (n, k, (K1 P).map (fun (x : Addr × Obj) => BT.get t x.1), [0, 1, 4, 5, 6, 7, 8, 9, 10].map (fun i => BT.get t i), lookS P ⟨absHeap t n {}, #[], boot_drawn, k, os⟩,
      seenQ qL looseL (importedModules pw_sn0078_01.main.body) (fun _ => true) true ⟨absHeap t n {}, #[], boot_drawn, k, os⟩)
  | _ => none
noncomputable def lookG (P : Params) :=
  some (200, 2592, (K1 P).map (fun (x : Addr × Obj) => some x.2), [boot_o_0 P, boot_o_1 P, boot_o_4 P, boot_o_5 P, boot_o_6 P, boot_o_7 P, boot_o_8 P, boot_o_9 P, boot_o_10 P].map some, true, openGood qL looseL)
theorem den_same : denote table = denQ treeQ := by rw [table_eq_tree, denQ_eq, treeQ_eq]
section
variable {w : World} {os : OsState}
theorem evQ_wp {α : Type} {Γ : PySem.Ctx} {m : Sem α} {p : Pos} {t : BT} {n k : Nat} {o : Out α} {Q : α → Pos → Shared → Prop} {E : Value → Pos → Shared → Prop} (h : evQ w Γ m p t n k = some o)
    (H : o.holds {} #[] boot_drawn os Q E) : Sem.wp (model pw_sn0078_01 w) Γ m Q E p ⟨absHeap t n {}, #[], boot_drawn, k, os⟩ := by
  refine evT_wp (M := model pw_sn0078_01 w) (evC_ok (model pw_sn0078_01 w) 60) Γ Q E m p t n k o ?_ H
  show evT ⟨pw_sn0078_01, w.params⟩ (evC (denote table) ⟨pw_sn0078_01, w.params⟩ 60) Γ m p t n k = some o
  rw [den_same]
  exact h
end
theorem thn_some {α β : Type} {x : Option (Out α)} {f : α → Pos → BT → Nat → Nat → Option (Out β)} {o : Out β} (h : thn x f = some o) : ∃ a p t n k, x = some (.ok a p t n k) ∧ f a p t n k = some o := by
  unfold thn at h
  split at h
  · exact ⟨_, _, _, _, _, rfl, h⟩
  · cases h
theorem insAll_hp : ∀ (os : List Obj) (t : BT) (n : Nat) (t' : BT) (n' : Nat) (life : Life), insAll t n os = some (t', n') → absHeap t' n' life = hp (absHeap t n life) os ∧ n' = n + os.length
  | [], t, n, t', n', life, h => by
    obtain ⟨rfl, rfl⟩ : t = t' ∧ n = n' := by simpa [insAll] using h
    exact ⟨(hp_nil _).symm, rfl⟩
  | o :: r, t, n, t', n', life, h => by
    unfold insAll at h
    cases e : ((t.ins n o).get n).isSome with
    | false => rw [e] at h; cases h
    | true =>
      rw [e] at h
      dsimp only at h
      rw [fz_eq] at h
      obtain ⟨h1, h2⟩ := insAll_hp r _ _ _ _ life h
      refine ⟨?_, by rw [h2, List.length_cons]; omega⟩
      rw [h1, absHeap_ins e]
      show hp ((absHeap t n life).push o) r = hp (absHeap t n life) ([o] ++ r)
      rw [← hp_nil (absHeap t n life), hp_push, hp_nil]
      show Heap.mk _ _ = Heap.mk _ _
      congr 1
      simp [hp]
theorem wp_execs_app {M : Model} {Γ : PySem.Ctx} {env : Env} {Q : Flow → Pos → Shared → Prop} {E : Value → Pos → Shared → Prop} (l2 : List Stmt) : ∀ (l1 : List Stmt) (p : Pos) (s : Shared),
    Sem.wp M Γ (execs l1 env) (fun f p s => match f with | .next => Sem.wp M Γ (execs l2 env) Q E p s | f => Q f p s) E p s → Sem.wp M Γ (execs (l1 ++ l2) env) Q E p s
  | [], p, s, h => by
    have h' : Sem.wp M Γ (pure Flow.next : Sem Flow) (fun f p s => match f with | .next => Sem.wp M Γ (execs l2 env) Q E p s | f => Q f p s) E p s := h
    rw [Sem.wp_pure'] at h'
    exact h'
  | st :: l1, p, s, h => by
    rw [List.cons_append, execs_cons, Sem.wp_bind']
    rw [execs_cons, Sem.wp_bind'] at h
    refine Sem.wp_mono M Γ _ (fun f p s h => ?_) (fun _ _ _ h => h) p s h
    cases f with
    | next => exact wp_execs_app l2 l1 p s h
    | _ => rw [Sem.wp_pure'] at h ⊢; exact h
noncomputable def prOf (env : Env) (pos : Pos) : List (Option PySem.Expr) → List PySem.Expr → List Pr
  | some k :: ks, v :: vs => (eval k env, do let x ← eval v env; standAt pos; pure x) :: prOf env pos ks vs
  | _, _ => []
noncomputable def isI : Option PySem.Expr → Bool
  | some (.Constant (.int _) _ _) => true
  | _ => false
noncomputable def isS : PySem.Expr → Bool
  | .Constant (.str s) _ _ => Nat.ble s.length 1000
  | _ => false
noncomputable def allKV : List (Option PySem.Expr) → List PySem.Expr → Bool
  | k :: ks, v :: vs => isI k && (isS v && allKV ks vs)
  | [], [] => true
  | _, _ => false
theorem isI_is {a : Option PySem.Expr} (h : isI a = true) : ∃ i k p, a = some (.Constant (.int i) k p) := by
  cases a with
  | none => exact (Bool.false_ne_true h).elim
  | some a =>
    cases a with
    | Constant c k p =>
      cases c with
      | int i => exact ⟨i, k, p, rfl⟩
      | _ => exact (Bool.false_ne_true h).elim
    | _ => exact (Bool.false_ne_true h).elim
theorem isS_is {b : PySem.Expr} (h : isS b = true) : ∃ s k p, b = .Constant (.str s) k p ∧ s.length ≤ 1000 := by
  cases b with
  | Constant c k p =>
    cases c with
    | str s => exact ⟨s, k, p, rfl, Nat.le_of_ble_eq_true h⟩
    | _ => exact (Bool.false_ne_true h).elim
  | _ => exact (Bool.false_ne_true h).elim
theorem allKV_cons {a : Option PySem.Expr} {ks : List (Option PySem.Expr)} {b : PySem.Expr} {vs : List PySem.Expr} (h : allKV (a :: ks) (b :: vs) = true) :
    ∃ i k p s k' p', a = some (.Constant (.int i) k p) ∧ b = .Constant (.str s) k' p' ∧ s.length ≤ 1000 ∧ allKV ks vs = true := by
  obtain ⟨h1, h2⟩ := Bool.and_eq_true_iff.mp (show (isI a && (isS b && allKV ks vs)) = true from h)
  obtain ⟨h3, h4⟩ := Bool.and_eq_true_iff.mp h2
  obtain ⟨i, k, p, rfl⟩ := isI_is h1
  obtain ⟨s, k', p', rfl, h5⟩ := isS_is h3
  exact ⟨i, k, p, s, k', p', rfl, rfl, h5, h4⟩
theorem items_eq (env : Env) (pos : Pos) : ∀ (ks : List (Option PySem.Expr)) (vs : List PySem.Expr), allKV ks vs = true →
    (evalEachOpt ks env).zip ((evalEach vs env).map fun v => do let x ← v; standAt pos; pure x) = (prOf env pos ks vs).map someP
  | [], [], _ => rfl
  | a :: ks, b :: vs, h => by
    obtain ⟨i, k, p, s, k', p', rfl, rfl, _, h2⟩ := allKV_cons h
    have ih := items_eq env pos ks vs h2
    show _ :: _ = _ :: _
    rw [← ih]
    rfl
  | [], _ :: _, h => absurd (show false = true from h) (by decide)
  | _ :: _, [], h => absurd (show false = true from h) (by decide)
theorem kvs_of {prog : Program} {w : World} {A : Around} (env : Env) (pos : Pos) : ∀ (ks : List (Option PySem.Expr)) (vs : List PySem.Expr), allKV ks vs = true → KVs prog w A (prOf env pos ks vs) (kvOf ks vs)
  | [], [], _ => trivial
  | a :: ks, b :: vs, h => by
    obtain ⟨i, k, p, s, k', p', rfl, rfl, h1, h2⟩ := allKV_cons h
    have hs : s.length ≤ sizeLine := by
      rw [sizeLine_eq]; omega
    refine ⟨fun Q E st hq => ?_, fun Q E st hq => ?_, kvs_of env pos ks vs h2⟩
    · show wpAny _ _ (eval (.Constant (.int i) k p) env) Q E st
      rw [eval_Constant]
      exact wpAny_mkInt hq
    · show wpAny _ _ (eval (.Constant (.str s) k' p') env >>= fun x => standAt pos >>= fun _ => pure x) Q E st
      refine wpAny_bind ?_
      rw [eval_Constant]
      show wpAny _ _ (mkText s) _ _ _
      exact wpAny_mkText (wpAny_bind (wpAny_standAt (wpAny_pure hq)))
  | [], _ :: _, h => absurd (show false = true from h) (by decide)
  | _ :: _, [], h => absurd (show false = true from h) (by decide)
theorem KVs.take {prog : Program} {w : World} {A : Around} : ∀ (n : Nat) {ps : List Pr} {xs : List (Int × Str)}, KVs prog w A ps xs → KVs prog w A (ps.take n) (xs.take n)
  | 0, _, _, _ => trivial
  | _ + 1, [], [], _ => trivial
  | n + 1, _ :: _, _ :: _, h => ⟨h.1, h.2.1, KVs.take n h.2.2⟩
  | _, [], _ :: _, h => h.elim
  | _, _ :: _, [], h => h.elim
theorem KVs.drop {prog : Program} {w : World} {A : Around} : ∀ (n : Nat) {ps : List Pr} {xs : List (Int × Str)}, KVs prog w A ps xs → KVs prog w A (ps.drop n) (xs.drop n)
  | 0, _, _, h => h
  | _ + 1, [], [], _ => trivial
  | n + 1, _ :: _, _ :: _, h => KVs.drop n h.2.2
  | _, [], _ :: _, h => h.elim
  | _, _ :: _, [], h => h.elim
theorem runs_kv {prog : Program} {w : World} {A : Around} : ∀ (n : Nat) {ps : List Pr} {xs : List (Int × Str)}, KVs prog w A ps xs → 17 * n ≤ ps.length → KVss prog w A (runs17 n ps) (runs17 n xs)
  | 0, _, _, _, _ => trivial
  | n + 1, ps, xs, h, hl => ⟨h.take 17, by rw [List.length_take]; omega, runs_kv n (h.drop 17) (by rw [List.length_drop]; omega)⟩
theorem runs_flat {α : Type} : ∀ (n : Nat) (l : List α), (runs17 n l).flatten = l.take (17 * n)
  | 0, l => by simp [runs17]
  | n + 1, l => by
    rw [runs17, List.flatten_cons, runs_flat n, show 17 * (n + 1) = 17 + 17 * n by omega, List.take_add]
structure Asked : Prop where
  pre_val : ∀ w : World, outVal (preO w) = some ((.ref 13, 14), default)
  fin_all : ∀ (w : World) (p : Pos) (os : OsState), lookF w.params os (finB w p) = lookG w.params
  n9 : kv9.length = 650
  ent9 : entL 350 (kv9.take 646) ++ entS 2288 (kv9.drop 646) = b3Entries 0 (dictAt 9).1 (dictAt 9).2
  blk_eq : blk = blk.take 9 ++ Stmt.Assign ts9 val9 q9 :: blk.drop 10
  boot_abs : ∀ P : Params, boot_heap P = absHeap (bootTree P) 11 {}
  all9 : allKV ks9 vs9 = true
  nodup9 : decide ((kv9.map (·.1)).Nodup) = true
noncomputable def AtEnd (w : World) (os : OsState) (s : Shared) : Prop :=
  ∃ t, s = ⟨absHeap t 200 {}, #[], boot_drawn, 2592, os⟩ ∧ (K1 w.params).map (fun (x : Addr × Obj) => BT.get t x.1) = (K1 w.params).map (fun (x : Addr × Obj) => some x.2) ∧
    [0, 1, 4, 5, 6, 7, 8, 9, 10].map (fun i => BT.get t i) = [boot_o_0 w.params, boot_o_1 w.params, boot_o_4 w.params, boot_o_5 w.params, boot_o_6 w.params, boot_o_7 w.params, boot_o_8 w.params, boot_o_9 w.params, boot_o_10 w.params].map some ∧
    lookS w.params s = true ∧ openSeen qL looseL (importedModules pw_sn0078_01.main.body) (fun _ => true) true s = openGood qL looseL
theorem atEnd_of {w : World} {os : OsState} {o : Out Flow} (h : lookF w.params os (some o) = lookG w.params) : ∃ p t n k, o = .ok .next p t n k ∧ AtEnd w os ⟨absHeap t n {}, #[], boot_drawn, k, os⟩ := by
  cases o with
  | err e p t n k => cases h
  | ok f p t n k =>
    cases f with
    | next =>
      have h' : some _ = some _ := h
      injection h' with h'
      obtain ⟨h1, h'⟩ := Prod.mk.inj h'
      obtain ⟨h2, h'⟩ := Prod.mk.inj h'
      obtain ⟨h3, h'⟩ := Prod.mk.inj h'
      obtain ⟨h4, h'⟩ := Prod.mk.inj h'
      obtain ⟨h5, h6⟩ := Prod.mk.inj h'
      subst h1 h2
      exact ⟨p, t, _, _, rfl, t, rfl, h3, h4, h5, by rw [seenQ_eq]; exact h6⟩
    | _ => cases h
theorem blt_nodup {l : List (Int × Str)} (h : decide ((l.map (·.1)).Nodup) = true) : (l.map (·.1)).Nodup := of_decide_eq_true h
theorem b3_gen {prog : Program} {w : World} {os : OsState} {dr : Drawn} {ks : List (Option PySem.Expr)} {vs : List PySem.Expr} {pos : Pos} {env : Env} {Γ : PySem.Ctx} {E : Value → Pos → Shared → Prop} {p : Pos} {h : Heap} {Q : Value → Pos → Shared → Prop} (all : allKV ks vs = true) (n9 : (kvOf ks vs).length = 650) (hnd : ((kvOf ks vs).map (·.1)).Nodup) (hs : sysModules < h.objs.size) (hn : Γ.handled = none)
    (hq : ∀ p', Q (.ref h.objs.size) p' ⟨hp h (dObj (entL 350 ((kvOf ks vs).take 646) ++ entS 2288 ((kvOf ks vs).drop 646)) 650 :: (chunkObjs 401 (runs17 37 ((kvOf ks vs).drop 17)) ++ [dObj (entS 2288 ((kvOf ks vs).drop 646)) 4])), #[], dr, 2300, os⟩) :
    Sem.wp (model prog w) Γ (eval (.Dict ks vs pos) env) Q E p ⟨h, #[], dr, 350, os⟩ := by
  have main : wpAny (model prog w) { depth := frameCount Γ.below + Γ.code.weight, units := Γ.units } (eval (.Dict ks vs pos) env) (fun v s => v = .ref h.objs.size ∧ s = ⟨hp h (dObj (entL 350 ((kvOf ks vs).take 646) ++ entS 2288 ((kvOf ks vs).drop 646)) 650 :: (chunkObjs 401 (runs17 37 ((kvOf ks vs).drop 17)) ++ [dObj (entS 2288 ((kvOf ks vs).drop 646)) 4])), #[], dr, 2300, os⟩) (fun _ _ => False) ⟨h, #[], dr, 350, os⟩ := by
    rw [arm_eval_Dict]
    refine wpAny_bind (wpAny_standAt ?_)
    rw [items_eq env pos ks vs all]
    have kv : KVs prog w { depth := frameCount Γ.below + Γ.code.weight, units := Γ.units } (prOf env pos ks vs) (kvOf ks vs) := kvs_of env pos ks vs all
    clear hq
    revert kv n9 hnd
    generalize ({ depth := frameCount Γ.below + Γ.code.weight, units := Γ.units } : Around) = A
    generalize kvOf ks vs = xs
    generalize prOf env pos ks vs = ps
    intro n9 hnd kv
    have hlen : ps.length = 650 := kv.length.trans n9
    have hsplit : ∀ {α : Type} (l : List α), l = l.take 17 ++ (runs17 37 (l.drop 17)).flatten ++ l.drop 646 := fun l => by
      rw [runs_flat, ← List.take_add, List.take_append_drop]
    rw [hsplit ps]
    have hx := hsplit xs
    have l1 : (xs.take 17).length = 17 := by rw [List.length_take, n9]; rfl
    have l2 : ((runs17 37 (xs.drop 17)).flatten).length = 629 := by rw [runs_flat, List.length_take, List.length_drop, n9]; rfl
    have l3 : (xs.drop 646).length = 4 := by rw [List.length_drop, n9]
    refine display (h := h) (xs0 := xs.take 17) (xss := runs17 37 (xs.drop 17)) (xsl := xs.drop 646) (kv.take 17) (by rw [List.length_take, hlen]; rfl) (runs_kv 37 (kv.drop 17) (by rw [List.length_drop, hlen]; decide)) (kv.drop 646) (by rw [List.length_drop, hlen]; decide)
      (fun e => by have := congrArg List.length e; rw [List.length_drop, hlen] at this; cases this) (by rw [← hx]; exact hnd) (by rw [l1, l2, l3, sizeLine_eq]; decide) hs ?_
    rw [l1, l2, l3]
    refine ⟨rfl, ?_⟩
    have e1 : xs.take 17 ++ (runs17 37 (xs.drop 17)).flatten = xs.take 646 := by rw [runs_flat, ← List.take_add]
    rw [e1]
  refine Sem.wp_mono _ _ _ (fun v p' s h => ?_) (fun _ _ _ h => h.elim) p _ (main Γ p ⟨hn, Nat.le_refl _, (fun _ h => nomatch h), (fun _ h => nomatch h), Nat.le_refl _⟩)
  obtain ⟨rfl, rfl⟩ := h
  exact hq p'
theorem ctx1_handled : ctx1.handled = none := rfl
section
variable (A : Asked) (w : World) (os : OsState)
include A
theorem b3_wp {E : Value → Pos → Shared → Prop} {p : Pos} {t : BT} {n : Nat} {Q : Value → Pos → Shared → Prop} (hs : sysModules < n)
    (hq : ∀ p', Q (.ref n) p' ⟨hp (absHeap t n {}) b3Objs, #[], boot_drawn, 2300, os⟩) : Sem.wp (model pw_sn0078_01 w) ctx1 (eval val9 env0) Q E p ⟨absHeap t n {}, #[], boot_drawn, 350, os⟩ := by
  have hh : (absHeap t n {}).objs.size = n := absHeap_size t n {}
  have e := A.ent9
  have n := A.n9
  have d := of_decide_eq_true A.nodup9
  have al := A.all9
  have hb : b3Objs = dObj (entL 350 (kv9.take 646) ++ entS 2288 (kv9.drop 646)) 650 :: (chunkObjs 401 (runs17 37 (kv9.drop 17)) ++ [dObj (entS 2288 (kv9.drop 646)) 4]) := by
    unfold b3Objs o96
    rw [← e]
  rw [hb] at hq
  have hc := ctx1_handled
  revert hc hq n d al
  unfold val9 kv9
  generalize ctx1 = Γ
  generalize ks9 = ks
  generalize vs9 = vs
  generalize p9 = pos
  generalize env0 = env
  intro hq n d al hc
  exact b3_gen al n d (by rw [hh]; exact hs) hc fun p' => by rw [hh]; exact hq p'
end
theorem outVal_some {α : Type} {o : Option (Out α)} {a : α} {p : Pos} (h : outVal o = some (a, p)) : ∃ t n k, o = some (.ok a p t n k) := by
  unfold outVal at h
  split at h
  · obtain ⟨rfl, rfl⟩ : _ ∧ _ := by simpa using h
    exact ⟨_, _, _, rfl⟩
  · cases h
theorem den_body (tb : String → Option Builtin) (b : List Stmt) (env : Env) : denote tb (.body b env) = (blockStart b env).bind (fun _ => ((execs b env).onRaise (leaving env)).bind fun f => (Sem.pure (Fin.done f) : Sem Fin)) := rfl
theorem assign_wp {M : Model} {Γ : PySem.Ctx} {env : Env} {ts : List PySem.Expr} {val : PySem.Expr} {q : Pos} {l2 : List Stmt} {Q : Flow → Pos → Shared → Prop} {E : Value → Pos → Shared → Prop} {p : Pos} {s : Shared}
    (h : Sem.wp M Γ (do standAt q; swapsWithSole ts val q.line env) (fun b p s => b = false ∧ Sem.wp M Γ (eval val env) (fun v p s => Sem.wp M Γ (do let r ← swappedStores ts val env; assignStores env v r ((assignEach ts env).map (·.2))) (fun f p s => f = .next ∧ Sem.wp M Γ (execs l2 env) Q E p s) E p s) E p s) E p s) :
    Sem.wp M Γ (execs (.Assign ts val q :: l2) env) Q E p s := by
  rw [execs_cons, Sem.wp_bind', arm_exec_Assign, Sem.wp_bind']
  rw [Sem.wp_bind'] at h
  refine Sem.wp_mono _ _ _ (fun _ p s h => ?_) (fun _ _ _ h => h) _ _ h
  rw [Sem.wp_bind']
  refine Sem.wp_mono _ _ _ (fun b p s h => ?_) (fun _ _ _ h => h) _ _ h
  obtain ⟨rfl, h⟩ := h
  rw [if_neg (by decide), Sem.wp_bind']
  refine Sem.wp_mono _ _ _ (fun v p s h => ?_) (fun _ _ _ h => h) _ _ h
  refine Sem.wp_mono _ _ _ (fun f p s h => ?_) (fun _ _ _ h => h) _ _ h
  obtain ⟨rfl, h⟩ := h
  exact h
theorem whole_wp {M : Model} {Γ : PySem.Ctx} {env : Env} {b l1 l2 : List Stmt} {Q : Flow → Pos → Shared → Prop} {E : Value → Pos → Shared → Prop} {p : Pos} {s : Shared} (hb : b = l1 ++ l2)
    (h : Sem.wp M Γ (do blockStart b env; execs l1 env) (fun f p s => f = .next ∧ Sem.wp M Γ (execs l2 env) Q E p s) E p s) : Sem.wp M Γ (do blockStart b env; execs b env) Q E p s := by
  rw [Sem.wp_bind'] at h ⊢
  refine Sem.wp_mono _ _ _ (fun _ p s h => ?_) (fun _ _ _ h => h) _ _ h
  rw [hb]
  refine wp_execs_app _ _ _ _ (Sem.wp_mono _ _ _ (fun f p s h => ?_) (fun _ _ _ h => h) _ _ h)
  obtain ⟨rfl, h⟩ := h
  exact h
section
variable {w : World} {os : OsState} {Γ : PySem.Ctx}
theorem evQ_ok {α : Type} {m : Sem α} {p p' : Pos} {t t' : BT} {n n' k k' : Nat} {a : α} {Q : α → Pos → Shared → Prop} {E : Value → Pos → Shared → Prop} (h : evQ w Γ m p t n k = some (.ok a p' t' n' k'))
    (H : Q a p' ⟨absHeap t' n' {}, #[], boot_drawn, k', os⟩) : Sem.wp (model pw_sn0078_01 w) Γ m Q E p ⟨absHeap t n {}, #[], boot_drawn, k, os⟩ := evQ_wp h H
theorem body_gen {env : Env} {b l1 l2 : List Stmt} {ts : List PySem.Expr} {val : PySem.Expr} {q : Pos} {R : Shared → Prop} {p p1 p2 : Pos} {t t1 t2 t3 : BT} {n n1 n2 n3 k k1 k2 : Nat} (hb : b = l1 ++ .Assign ts val q :: l2)
    (h1 : evQ w Γ (do blockQ b env; execsQ l1 env) p t n k = some (.ok .next p2 t2 n2 k2))
    (hA : evQ w Γ (do standAt q; soleQ ts val q.line env) p2 t2 n2 k2 = some (.ok false p1 t1 n1 k1))
    (hval : ∀ (Q : Value → Pos → Shared → Prop) (E : Value → Pos → Shared → Prop), (∀ p', Q (.ref n1) p' ⟨absHeap t3 n3 {}, #[], boot_drawn, 2300, os⟩) → Sem.wp (model pw_sn0078_01 w) Γ (eval val env) Q E p1 ⟨absHeap t1 n1 {}, #[], boot_drawn, k1, os⟩)
    (h3 : ∀ p', ∃ p4 t4 n4 k4, evQ w Γ (do let r ← swapQ ts val env; storesQ env (.ref n1) r ((eachQ ts env).map (·.2))) p' t3 n3 2300 = some (.ok .next p4 t4 n4 k4) ∧
      ∃ p5 t5 n5 k5, evQ w Γ (execsQ l2 env) p4 t4 n4 k4 = some (.ok .next p5 t5 n5 k5) ∧ R ⟨absHeap t5 n5 {}, #[], boot_drawn, k5, os⟩) :
    Sem.wp (model pw_sn0078_01 w) Γ (do blockStart b env; execs b env) (fun f _ s' => f = .next ∧ R s') (fun _ _ _ => False) p ⟨absHeap t n {}, #[], boot_drawn, k, os⟩ := by
  refine whole_wp hb ?_
  rw [← blockQ_eq, ← execsQ_eq] at h1
  refine evQ_ok h1 ⟨rfl, assign_wp ?_⟩
  rw [← soleQ_eq] at hA
  refine evQ_ok hA ⟨rfl, hval _ _ fun p' => ?_⟩
  obtain ⟨p4, t4, n4, k4, h4, p5, t5, n5, k5, h5, r⟩ := h3 p'
  rw [← swapQ_eq, ← storesQ_eq, ← eachQ_eq] at h4
  rw [← execsQ_eq] at h5
  exact evQ_ok h4 ⟨rfl, evQ_ok h5 ⟨rfl, r⟩⟩
end
theorem low96 : sysModules < 96 := by decide
section
variable (A : Asked) (w : World) (os : OsState)
include A
theorem body_wp {t : BT} {n k : Nat} (hpre : preO w = some (.ok (.ref 13, 14) default t n k)) :
    Sem.wp (model pw_sn0078_01 w) ctx1 (do blockStart blk env0; execs blk env0) (fun f _ s' => f = .next ∧ AtEnd w os s') (fun _ _ _ => False) default ⟨absHeap t n {}, #[], boot_drawn, k, os⟩ := by
  have fin := fun p => A.fin_all w p os
  have B : ∀ p, ∃ o, finB w p = some o ∧ ∃ p' t n k, o = .ok .next p' t n k ∧ AtEnd w os ⟨absHeap t n {}, #[], boot_drawn, k, os⟩ := fun p => by
    cases e : finB w p with
    | none => have := fin p; rw [e] at this; cases this
    | some o =>
      have := fin p
      rw [e] at this
      exact ⟨o, rfl, atEnd_of this⟩
  obtain ⟨b, p1, t1, n1, k1, hA, _⟩ : ∃ b p1 t1 n1 k1, finA w = some (.ok b p1 t1 n1 k1) ∧ True := by
    obtain ⟨o, ho, _⟩ := B default
    unfold finB at ho
    obtain ⟨b, p1, t1, n1, k1, hA, _⟩ := thn_some ho
    exact ⟨b, p1, t1, n1, k1, hA, trivial⟩
  unfold finB at B
  rw [hA] at B
  have B' : b = false ∧ (k1 = 350 ∧ n1 = 96) ∧ ∃ t3 n3, insAll t1 n1 b3Objs = some (t3, n3) ∧ ∀ p', ∃ p4 t4 n4 k4, evQ w ctx1 (do let r ← swapQ ts9 val9 env0; storesQ env0 (.ref n1) r ((eachQ ts9 env0).map (·.2))) p' t3 n3 2300 = some (.ok .next p4 t4 n4 k4) ∧
      ∃ p5 t5 n5 k5, evQ w ctx1 (execsQ (blk.drop 10) env0) p4 t4 n4 k4 = some (.ok .next p5 t5 n5 k5) ∧ AtEnd w os ⟨absHeap t5 n5 {}, #[], boot_drawn, k5, os⟩ := by
    cases b with
    | true => obtain ⟨o, ho, _⟩ := B default; cases ho
    | false =>
      refine ⟨rfl, ?_⟩
      dsimp only [thn] at B
      cases hk : and (Nat.beq k1 350) (Nat.beq n1 96) with
      | false => rw [hk] at B; obtain ⟨o, ho, _⟩ := B default; cases ho
      | true =>
        refine ⟨⟨Nat.eq_of_beq_eq_true (Bool.and_eq_true_iff.mp hk).1, Nat.eq_of_beq_eq_true (Bool.and_eq_true_iff.mp hk).2⟩, ?_⟩
        rw [hk] at B
        cases hi : insAll t1 n1 b3Objs with
        | none => rw [hi] at B; obtain ⟨o, ho, _⟩ := B default; cases ho
        | some x =>
          obtain ⟨t3, n3⟩ := x
          rw [hi] at B
          refine ⟨t3, n3, rfl, fun p' => ?_⟩
          obtain ⟨o, ho, p5, t5, n5, k5, rfl, r⟩ := B p'
          obtain ⟨f, p4, t4, n4, k4, h4, h5⟩ := thn_some ho
          cases f with
          | next => exact ⟨p4, t4, n4, k4, h4, p5, t5, n5, k5, h5, r⟩
          | _ => cases h5
  clear B fin
  obtain ⟨rfl, ⟨rfl, rfl⟩, t3, n3, hi, h3⟩ := B'
  unfold finA at hA
  obtain ⟨x0, p0, t0, n0, k0, hp0, hA⟩ := thn_some hA
  rw [hpre] at hp0
  injection hp0 with hp0; injection hp0 with e1 e2 e3 e4 e5
  subst e1 e2 e3 e4 e5
  obtain ⟨f1, p2, t2, n2, k2, h1, hA⟩ := thn_some hA
  obtain ⟨hi1, hi2⟩ := insAll_hp _ _ _ _ _ {} hi
  cases f1 with
  | next =>
    have key := @b3_wp A w os
    have hval : ∀ (Q : Value → Pos → Shared → Prop) (E : Value → Pos → Shared → Prop), (∀ p', Q (.ref 96) p' ⟨absHeap t3 n3 {}, #[], boot_drawn, 2300, os⟩) → Sem.wp (model pw_sn0078_01 w) ctx1 (eval val9 env0) Q E p1 ⟨absHeap t1 96 {}, #[], boot_drawn, 350, os⟩ := by
      rw [hi1]
      revert key
      generalize eval val9 env0 = T
      generalize b3Objs = Os
      generalize ctx1 = Γ
      intro key Q E hq
      exact key low96 hq
    have hb := A.blk_eq
    clear hi hi1 hi2 hpre
    revert hval hb h3 h1 hA
    generalize blk.take 9 = l1
    generalize blk.drop 10 = l2
    generalize AtEnd w os = R
    generalize ctx1 = Γ
    generalize blk = b
    generalize env0 = env
    generalize ts9 = ts
    generalize val9 = val
    generalize q9 = q
    intro h3 h1 hA hval hb
    exact body_gen hb h1 hA hval h3
  | _ => cases hA
end
theorem stub_gen {M : Model} {Γ : PySem.Ctx} {mc : Sem Value} {nf : Value → Sem Addr} {bd : Value → Addr → Sem Flow} {R : Shared → Prop} {E : Value → Pos → Shared → Prop} {p : Pos} {s : Shared}
    (h : Sem.wp M Γ (do let c ← mc; let f ← nf c; return (c, f)) (fun x p s => x = (.ref 13, 14) ∧ Sem.wp M Γ (bd (.ref 13) 14) (fun _ _ s => R s) E p s) E p s) :
    Sem.wp M Γ (do let c ← mc; let f ← nf c; let _ ← bd c f; ret .none) (fun fin _ s' => (∃ f, fin = .done f) ∧ R s') E p s := by
  simp only [Sem.wp_bind'] at h ⊢
  refine Sem.wp_mono _ _ _ (fun c p s h => ?_) (fun _ _ _ h => h) _ _ h
  refine Sem.wp_mono _ _ _ (fun f p s h => ?_) (fun _ _ _ h => h) _ _ h
  rw [Sem.wp_pure'] at h
  obtain ⟨h1, h2⟩ := h
  obtain ⟨rfl, rfl⟩ := Prod.mk.inj h1
  refine Sem.wp_mono _ _ _ (fun f p s h => ?_) (fun _ _ _ h => h) _ _ h2
  show Sem.wp M Γ (pure _) _ _ p s
  rw [Sem.wp_pure']
  exact ⟨⟨_, rfl⟩, h⟩
theorem run_body {M : Model} {tb : String → Option Builtin} (hden : M.den = denote tb) {Γ Γ' : PySem.Ctx} {b : List Stmt} {env : Env} {p : Pos} {s : Shared} {R : Shared → Prop} {E : Value → Pos → Shared → Prop} (hΓ : Γ.enter (.body b env) none p = Γ') (hc : Γ'.code = .body b env)
    (h : Sem.wp M Γ' (do blockStart b env; execs b env) (fun f _ s' => f = .next ∧ R s') (fun _ _ _ => False) p s) : Sem.wp M Γ (run (.body b env)) (fun _ _ s' => R s') E p s := by
  unfold run
  rw [Sem.wp_call, hΓ, wpCode_iff_wp, hc, hden, den_body, Sem.wp_bind]
  rw [Sem.wp_bind'] at h
  refine Sem.wp_mono _ _ _ (fun _ p s h => ?_) (fun _ _ _ h => h.elim) _ _ h
  rw [Sem.wp_bind, Sem.wp_onRaise]
  refine Sem.wp_mono _ _ _ (fun f q s h => ?_) (fun _ _ _ h => h.elim) _ _ h
  rw [Sem.wp_pure]
  show Sem.wp M Γ (Sem.pure f) (fun _ _ s' => R s') E p s
  rw [Sem.wp_pure]
  exact h.2
theorem runN_before {den : Code → Sem Fin} {prog : Program} {w : World} {o : Outcome} {s' : Shared} : ∀ (n : Nat) (s : Shared) (t : Thread), runN den prog w n s t = .halted o s' →
    ∃ m s₁ t₁, runN den prog w m s t = .running s₁ t₁ ∧ step den prog w s₁ t₁ = .halt o s'
  | 0, s, t, h => by cases h
  | n + 1, s, t, h => by
    simp only [runN] at h
    cases hs : step den prog w s t with
    | go s₂ t₂ =>
      rw [hs] at h
      obtain ⟨m, s₁, t₁, h1, h2⟩ := runN_before n s₂ t₂ h
      exact ⟨m + 1, s₁, t₁, by simp only [runN, hs]; exact h1, h2⟩
    | halt o₂ s₂ =>
      rw [hs] at h
      injection h with h1 h2
      subst h1 h2
      exact ⟨0, s, t, rfl, hs⟩
theorem go_halt {s s' : Shared} {t : Thread} {o : Outcome} (h : Step.go s t = .halt o s') : False := by cases h
theorem halt_halt {s s' : Shared} {o o' : Outcome} (h : Step.halt o s = .halt o' s') (hn : o ≠ o') : False := by cases h; exact hn rfl
theorem fin_halt {s s' : Shared} {o : Outcome} {f : Flow} (h : PySem.finish o s = .halt (.done f) s') (hn : o ≠ .done f) : False := by
  unfold PySem.finish at h
  split at h
  · cases h
  · exact halt_halt h hn
theorem opt_halt {o : Option Obj} {f : Obj → Shared × Thread} {w : String} {s s' : Shared} {g : Flow} (h : (match o with | some x => Step.go (f x).1 (f x).2 | none => Step.halt (.stuck w) s) = .halt (.done g) s') : False := by
  cases o <;> cases h
theorem ite_halt {c : Prop} [Decidable c] {s s₂ s' : Shared} {t : Thread} {w : String} {g : Flow} (h : (if c then Step.go s t else Step.halt (.stuck w) s₂) = .halt (.done g) s') : False := by
  split at h <;> cases h
theorem ite3_halt {c : Prop} [Decidable c] {s s₂ s' : Shared} {t : Thread} {w : String} {g : Flow} (h : (if c then Step.halt (.stuck w) s₂ else Step.go s t) = .halt (.done g) s') : False := by
  split at h <;> cases h
theorem ite2_halt {c : Prop} [Decidable c] {s s₂ s' : Shared} {o : Outcome} {o'' : String} {g : Flow} (h : (if c then Step.halt (.unsupported o'') s₂ else Step.halt o s) = .halt (.done g) s') (hn : o ≠ .done g) : False := by
  split at h
  · cases h
  · exact halt_halt h hn
theorem through_of {den : Code → Sem Fin} {prog : Program} {w : World} {f : Flow} {s s' : Shared} {t : Thread} (h : step den prog w s t = .halt (.done f) s') : through t = true := by
  obtain ⟨heap, gens, drawn, toks, os⟩ := s
  obtain ⟨cur, code, pos, stack⟩ := t
  cases cur with
  | pure fin =>
    cases fin with
    | again c => exact (go_halt h).elim
    | done g =>
      cases stack with
      | nil => rfl
      | cons fr r => cases fr <;> exact (go_halt h).elim
  | raise e =>
    cases stack with
    | nil => exact (fin_halt h (fun h => by cases h)).elim
    | cons fr r => cases fr <;> exact (go_halt h).elim
  | load a b k => exact (opt_halt (o := heap.get? a) (f := fun x => (⟨heap, gens, drawn, toks, os⟩, ⟨k x, code, pos, stack⟩)) h).elim
  | update a b f k => exact (ite_halt h).elim
  | finish e => exact (ite2_halt h (fun h => by cases h)).elim
  | choose src n k => exact (ite3_halt h).elim
  | genState g k =>
    unfold step at h
    dsimp only at h
    split at h <;> cases h
  | yield v g0 l kk =>
    unfold step at h
    dsimp only at h
    split at h <;> cases h
  | resume g r l k =>
    unfold step at h
    dsimp only at h
    (repeat' split at h) <;> cases h
  | unsupported => exact (halt_halt h (fun h => by cases h)).elim
  | register => exact (halt_halt h (fun h => by cases h)).elim
  | fork => exact (halt_halt h (fun h => by cases h)).elim
  | await => exact (halt_halt h (fun h => by cases h)).elim
  | _ => exact (go_halt h).elim
theorem ran_of_wp {prog : Program} {w : World} {t : Sem Fin} {s : Shared} {R : Shared → Prop} (hz : s.asleep) (hR : ∀ s', R s' → s'.gens = #[])
    (h : Sem.wp (model prog w) ⟨.builtin "claim.caller" {}, none, none, [], none⟩ t (fun fin _ s' => (∃ f, fin = .done f) ∧ R s') (fun _ _ _ => False) default s) :
    ∃ s', R s' ∧ ∃ n t', schedN (denote table) prog w n (.single s ⟨t, .builtin "claim.caller" {}, default, []⟩) = .running (.single s' t') ∧ through t' = true := by
  have h2 : Sem.wp (model prog w) ⟨.builtin "claim.caller" {}, none, none, [], none⟩ t (Sem.finPost (model prog w) ⟨.builtin "claim.caller" {}, none, none, [], none⟩ fun r s' => ((∃ f, r = .ok f) ∧ R s') ∧ leftWithCleanup s'.gens = false)
      (fun e _ s' => ((∃ f, (.error e : Result) = .ok f) ∧ R s') ∧ leftWithCleanup s'.gens = false) default s := by
    refine Sem.wp_mono _ _ _ (fun fin p s' h => ?_) (fun _ _ _ h => h.elim) _ _ h
    obtain ⟨⟨f, rfl⟩, h⟩ := h
    exact ⟨⟨⟨f, rfl⟩, h⟩, by rw [hR _ h]; simp [leftWithCleanup]⟩
  obtain ⟨n, r, s', hn, ⟨f, rfl⟩, hr⟩ := (wp_iff_halts t (fun r s' => (∃ f, r = .ok f) ∧ R s') default s).mp h2
  obtain ⟨s'', hrun, hf, hc⟩ := runNI_real (denote table) prog w hn (outcomeOf_ends (.ok f))
  have hs' : s'' = s' := by
    have hg := hR _ hr
    obtain ⟨heap, gens, drawn, toks, os⟩ := s'
    obtain ⟨heap', gens', drawn', toks', os'⟩ := s''
    simp only [Shared.forget, Shared.mk.injEq] at hf
    obtain ⟨rfl, e, rfl, rfl, rfl⟩ := hf
    obtain rfl : gens = #[] := hg
    have : gens' = #[] := by
      apply Array.eq_empty_of_size_eq_zero
      have := congrArg Array.size e
      simpa using this
    rw [this]
  subst hs'
  have hne : ∀ k s₂, runN (denote table) prog w k s ⟨t, .builtin "claim.caller" {}, default, []⟩ ≠ .halted (.unsupported "lifetime:generator-with-cleanup-left-suspended") s₂ := by
    intro k s₂ hk
    have a := runN_mono (denote table) prog w n k s _ _ _ hrun
    have b := runN_mono (denote table) prog w k n s _ _ s₂ hk
    rw [Nat.add_comm, b] at a
    injection a with a1 _
    cases a1
  obtain ⟨m, s₁, t₁, h3, h4⟩ := runN_before n _ _ hrun
  have hsame := step_halt_same (denote table) prog w s₁ _ t₁ _ h4
  subst hsame
  refine ⟨_, hr, m, t₁, ?_, through_of h4⟩
  rw [schedN_eq_runN (den := denote table) (prog := prog) (w := w) s _ hz ⟨hc, hne⟩ m, h3]
  rfl
theorem top_gen {w : World} {os : OsState} {R : Shared → Prop} {t0 t : BT} {n n0 k k0 : Nat} {P : Program} {b : List Stmt} {env : Env} {Γ0 Γ1 : PySem.Ctx} (hblk : behindTheImports P = b) (henv : ({ scope := P.main.scope, locals := mainNs, globals := mainNs, cells := [], code := .ref 13, frame := some 14 } : Env) = env)
    (hΓ : Γ0.enter (.body b env) none default = Γ1) (hc : Γ1.code = .body b env)
    (hp : evQ w Γ0 (do let code ← moduleCode P.main; let frame ← newBodyFrame code mainNs mainNs; return (code, frame)) default t0 n0 k0 = some (.ok (Value.ref 13, (14 : Addr)) default t n k))
    (hb : Sem.wp (model pw_sn0078_01 w) Γ1 (do blockStart b env; execs b env) (fun f _ s' => f = .next ∧ R s') (fun _ _ _ => False) default ⟨absHeap t n {}, #[], boot_drawn, k, os⟩) :
    Sem.wp (model pw_sn0078_01 w) Γ0 (topStub P).cur (fun fin _ s' => (∃ f, fin = .done f) ∧ R s') (fun _ _ _ => False) default ⟨absHeap t0 n0 {}, #[], boot_drawn, k0, os⟩ := by
  subst hblk henv
  refine stub_gen (R := R) (mc := moduleCode P.main) (nf := fun code => newBodyFrame code mainNs mainNs) (evQ_ok hp ⟨rfl, ?_⟩)
  exact run_body (tb := table) rfl hΓ hc hb
theorem ctx1_code : ctx1.code = .body blk env0 := rfl
theorem ctx1_enter : ctx0.enter (.body blk env0) none default = ctx1 := rfl
theorem blk_is : behindTheImports pw_sn0078_01 = blk := rfl
theorem env_is : ({ scope := pw_sn0078_01.main.scope, locals := mainNs, globals := mainNs, cells := [], code := .ref 13, frame := some 14 } : Env) = env0 := rfl
section
variable (A : Asked) (w : World) (os : OsState)
include A
theorem top_wp : Sem.wp (model pw_sn0078_01 w) ctx0 (topStub pw_sn0078_01).cur (fun fin _ s' => (∃ f, fin = .done f) ∧ AtEnd w os s') (fun _ _ _ => False) default ⟨boot_heap w.params, #[], boot_drawn, boot_toks, os⟩ := by
  obtain ⟨t, n, k, hp⟩ := outVal_some (A.pre_val w)
  have key := @body_wp A w os t n k hp
  unfold preO preT at hp
  have e := A.boot_abs w.params
  have gen := @top_gen w os (AtEnd w os) (bootTree w.params) t n 11 k boot_toks pw_sn0078_01 blk env0 ctx0 ctx1 blk_is env_is ctx1_enter ctx1_code hp
  revert key gen
  rw [e]
  generalize ctx0 = Γ0
  generalize ctx1 = Γ1
  generalize topStub pw_sn0078_01 = st
  generalize (do blockStart blk env0; execs blk env0 : Sem Flow) = T
  intro key gen
  exact gen key
end
theorem pre_val (w : World) : outVal (preO w) = some ((.ref 13, 14), default) := by kernel_rfl
theorem pre_info (w : World) : outInfo (preO w) = some (15, 187) := by kernel_rfl
theorem n9 : kv9.length = 650 := by kernel_rfl
theorem ent9 : entL 350 (kv9.take 646) ++ entS 2288 (kv9.drop 646) = b3Entries 0 (dictAt 9).1 (dictAt 9).2 := by kernel_rfl
theorem fin_t (w : World) (p : Pos) (os : OsState) : lookF (w.withFollow "special-get-raises" true).params os (finB (w.withFollow "special-get-raises" true) p) = lookG (w.withFollow "special-get-raises" true).params := by kernel_rfl
theorem fin_f (w : World) (p : Pos) (os : OsState) : lookF (w.withFollow "special-get-raises" false).params os (finB (w.withFollow "special-get-raises" false) p) = lookG (w.withFollow "special-get-raises" false).params := by kernel_rfl
theorem fin_all (w : World) : ∀ (p : Pos) (os : OsState), lookF w.params os (finB w p) = lookG w.params :=
  byRow2 "special-get-raises" (P := fun w => ∀ (p : Pos) (os : OsState), lookF w.params os (finB w p) = lookG w.params) fin_f fin_t w
theorem blk_eq : blk = blk.take 9 ++ Stmt.Assign ts9 val9 q9 :: blk.drop 10 := by kernel_rfl
theorem boot_abs (P : Params) : boot_heap P = absHeap (bootTree P) 11 {} := by kernel_rfl
theorem all9 : allKV ks9 vs9 = true := by kernel_rfl
noncomputable def incr : Int → List Int → Bool
  | _, [] => true
  | a, b :: l => decide (a < b) && incr b l
theorem incr_lt : ∀ (l : List Int) (a : Int), incr a l = true → (∀ x ∈ l, a < x) ∧ l.Nodup
  | [], _, _ => ⟨fun _ h => absurd h List.not_mem_nil, .nil⟩
  | b :: l, a, h => by
    have h' : (decide (a < b) && incr b l) = true := h
    obtain ⟨h1, h2⟩ := Bool.and_eq_true_iff.mp h'
    have h1' := of_decide_eq_true h1
    obtain ⟨i1, i2⟩ := incr_lt l b h2
    exact ⟨List.forall_mem_cons.mpr ⟨h1', fun x hx => Int.lt_trans h1' (i1 x hx)⟩, List.nodup_cons.mpr ⟨fun hb => Int.lt_irrefl b (i1 b hb), i2⟩⟩
theorem nodup9 : decide ((kv9.map (·.1)).Nodup) = true := decide_eq_true (incr_lt (kv9.map (·.1)) (-1) (by kernel_rfl)).2
theorem asked : Asked := ⟨pre_val, fin_all, n9, ent9, blk_eq, boot_abs, all9, nodup9⟩
theorem opening_is : opening pw_sn0078_01 = plainProg pw_sn0078_01.main.scope.names := by kernel_rfl
theorem fence_is (s : Shared) : fenceModules? pw_sn0078_01 s = some s := by kernel_rfl
noncomputable def notFreed (o : Obj) : Bool := match o with
  | ⟨_, _, .freed, _⟩ => false
  | _ => true
theorem K0_all (P : Params) : ((K1 P).all fun (x : Addr × Obj) => Nat.blt x.1 200 && notFreed x.2) = true := by kernel_rfl
theorem alive_of {o : Obj} (h : notFreed o = true) : alive o = some o := by
  obtain ⟨c, d, dt, sl⟩ := o
  cases dt <;> first | rfl | cases h
theorem low_boot (P : Params) : bootTree P = bootTree P ∧ [0, 1, 4, 5, 6, 7, 8, 9, 10].map (fun i => BT.get (bootTree P) i) = [boot_o_0 P, boot_o_1 P, boot_o_4 P, boot_o_5 P, boot_o_6 P, boot_o_7 P, boot_o_8 P, boot_o_9 P, boot_o_10 P].map some := ⟨rfl, by kernel_rfl⟩
theorem K_in {w : World} {t : BT} (h : (K1 w.params).map (fun (x : Addr × Obj) => BT.get t x.1) = (K1 w.params).map (fun (x : Addr × Obj) => some x.2)) : (K1 w.params).In (absHeap t 200 {}) := by
  have all := K0_all w.params
  refine Frag.in_of rfl ?_
  revert h all
  generalize K1 w.params = K
  intro h all
  rw [List.map_map]
  refine List.map_congr_left fun x hx => ?_
  have ha := List.all_eq_true.mp all x hx
  obtain ⟨a1, a2⟩ := Bool.and_eq_true_iff.mp ha
  have hg : t.get x.1 = some x.2 := List.map_inj_left.mp h x hx
  show (absHeap t 200 {}).get? x.1 = some x.2
  rw [abs_get (Nat.le_of_ble_eq_true a1) hg, alive_of a2]
noncomputable def Behind0 : Prop := ∀ w, (∃ s, AfterRun (opening pw_sn0078_01) w s) ∧ ∀ s, AfterRun (opening pw_sn0078_01) w s → ∃ s₀, fenceModules? pw_sn0078_01 s = some s₀ ∧ s₀.gens = #[] ∧ ∃ s₁, TopRan pw_sn0078_01 w s₀ s₁ ∧ s₁.asleep ∧ s₁.gens = #[] ∧ s₁.heap.isNs mainGlobals = true ∧
  Ground qL looseL [] (fun _ _ => True) w s₁ (s₁.heap.nsMap mainGlobals) (s₁.heap.nsMap builtinsNs) s₁.heap ∧ (K1 w.params).In s₁.heap
theorem chains_ok : chainsOk qL = true := by kernel_rfl
theorem mem_low (b : Nat) (h : b < 11) (h2 : b ≠ 2) (h3 : b ≠ 3) : b ∈ [0, 1, 4, 5, 6, 7, 8, 9, 10] := by
  exact (by decide : ∀ b : Nat, b < 11 → b ≠ 2 → b ≠ 3 → b ∈ [0, 1, 4, 5, 6, 7, 8, 9, 10]) b h h2 h3
theorem behind0 : Behind0 := by
  intro w
  have h := boot_open (N := 600) opening_is (by decide) fence_is w
  rw [← table_eq_tree] at h
  obtain ⟨s₀, h2, h3⟩ := Option.map_eq_some_iff.mp h
  obtain ⟨s, h4, h5⟩ := Option.bind_eq_some_iff.mp h2
  have AI := AfterImport.of_importEnds h4
  refine ⟨⟨s, AI⟩, fun s' hs' => ?_⟩
  obtain rfl : s' = s := AfterImport.unique hs' AI
  have z : s₀.asleep := Shared.asleep_of_life (fence_lifeW h5) AI.life
  obtain ⟨heap, gens, drawn, toks, os⟩ := s₀
  obtain ⟨rfl, rfl, rfl, rfl⟩ : heap = boot_heap w.params ∧ gens = Array.mk [] ∧ drawn = boot_drawn ∧ toks = boot_toks := by simpa using h3
  have key := @top_wp asked w os
  obtain ⟨s₁, ⟨t, rfl, g1, g2, g3, g4⟩, run⟩ := ran_of_wp (R := AtEnd w os) z (fun s' h => by obtain ⟨t, rfl, _⟩ := h; rfl) key
  obtain ⟨hs, hlk⟩ := Bool.and_eq_true_iff.mp g3
  obtain ⟨hs, hgd⟩ := Bool.and_eq_true_iff.mp hs
  obtain ⟨hs, hnb⟩ := Bool.and_eq_true_iff.mp hs
  obtain ⟨G, _, q1, q2, q3, q4, q5⟩ := ground_of_open (XP := fun _ _ => True) (w := w) (fun _ _ => trivial) chains_ok g4
  refine ⟨_, h5, rfl, _, ⟨run, rfl, rfl, ?_, q2, statics_of_ok hs, q3, q4, q5, gens_of_done hgd, names_of_bound hnb, laid_of_kept hlk⟩, Shared.asleep_of_life (s := ⟨boot_heap w.params, Array.mk [], boot_drawn, boot_toks, os⟩) rfl z, rfl, q1, G, K_in g1⟩
  intro b o hb hn
  have lt : b < 11 := Heap.lt_size hb
  have same : ∀ i ∈ [0, 1, 4, 5, 6, 7, 8, 9, 10], BT.get t i = BT.get (bootTree w.params) i := List.map_inj_left.mp (g2.trans (low_boot w.params).2.symm)
  have hmem : b ∈ [0, 1, 4, 5, 6, 7, 8, 9, 10] := by
    have n2 : b ≠ 2 := fun e => hn (.inr (.inl e))
    have n3 : b ≠ 3 := fun e => hn (.inl e)
    exact mem_low b lt n2 n3
  have e := same b hmem
  have hb' : (absHeap (bootTree w.params) 11 {}).get? b = some o := by rw [← asked.boot_abs]; exact hb
  cases hg : BT.get (bootTree w.params) b with
  | none =>
    exfalso
    have hin : BT.get (bootTree w.params) b ∈ [0, 1, 4, 5, 6, 7, 8, 9, 10].map (fun i => BT.get (bootTree w.params) i) := List.mem_map_of_mem (f := fun i => BT.get (bootTree w.params) i) hmem
    rw [(low_boot w.params).2, hg] at hin
    obtain ⟨_, _, e⟩ := List.mem_map.mp hin
    cases e
  | some o' =>
    rw [abs_get lt hg] at hb'
    show (absHeap t 200 {}).get? b = some o
    rw [abs_get (Nat.lt_trans lt (by decide)) (e.trans hg)]
    exact hb'
theorem ex_two {α β : Type} {p1 p2 : α → Prop} {q1 q2 q3 q4 q5 q6 : α → β → Prop} {C : Prop} (h : ∃ a, p1 a ∧ p2 a ∧ ∃ b, q1 a b ∧ q2 a b ∧ q3 a b ∧ q4 a b ∧ q5 a b ∧ q6 a b) (k : ∀ a b, p1 a → p2 a → q1 a b → q2 a b → q3 a b → q4 a b → q5 a b → q6 a b → C) : C := by
  obtain ⟨a, h1, h2, b, h3, h4, h5, h6, h7, h8⟩ := h
  exact k a b h1 h2 h3 h4 h5 h6 h7 h8
theorem ex_seven {α1 α2 α3 α4 α5 α6 α7 : Type} {q1 q2 q3 q4 q5 : α1 → α2 → α3 → α4 → α5 → α6 → α7 → Prop} {C : Prop} (h : ∃ a1 a2 a3 a4 a5 a6 a7, q1 a1 a2 a3 a4 a5 a6 a7 ∧ q2 a1 a2 a3 a4 a5 a6 a7 ∧ q3 a1 a2 a3 a4 a5 a6 a7 ∧ q4 a1 a2 a3 a4 a5 a6 a7 ∧ q5 a1 a2 a3 a4 a5 a6 a7) (k : ∀ a1 a2 a3 a4 a5 a6 a7, q1 a1 a2 a3 a4 a5 a6 a7 → q2 a1 a2 a3 a4 a5 a6 a7 → q3 a1 a2 a3 a4 a5 a6 a7 → q4 a1 a2 a3 a4 a5 a6 a7 → q5 a1 a2 a3 a4 a5 a6 a7 → C) : C := by
  obtain ⟨a1, a2, a3, a4, a5, a6, a7, h1, h2, h3, h4, h5⟩ := h
  exact k a1 a2 a3 a4 a5 a6 a7 h1 h2 h3 h4 h5
theorem holds_behind {r : OpenRow} {q : Program} {loose : List Str} {XP : (Str → Option Value) → Heap → Prop} {YP : World → Heap → Prop} {d : DefRec} {kwd : List (Str × PySem.Expr)}
    (LB : ∀ w, (∃ s, AfterRun (opening r.prog) w s) ∧ ∀ s, AfterRun (opening r.prog) w s → ∃ s₀, fenceModules? r.prog s = some s₀ ∧ s₀.gens = #[] ∧ ∃ s₁, TopRan r.prog w s₀ s₁ ∧ s₁.asleep ∧ s₁.gens = #[] ∧ s₁.heap.isNs mainGlobals = true ∧
      Ground q loose [] XP w s₁ (s₁.heap.nsMap mainGlobals) (s₁.heap.nsMap builtinsNs) s₁.heap ∧ YP w s₁.heap)
    (hYk : ∀ w h h', YP w h → (∀ b o, h.get? b = some o → h'.get? b = some o) → YP w h') (hXk : ∀ mg h h', XP mg h → (∀ b o, h.get? b = some o → h'.get? b = some o) → XP mg h')
    (hdef : defOf q r.name = some (d, kwd)) (hp : r.prog.theDef r.name = some (d.params, d.body, d.scope)) (hk : kwWritten? d.params.kwonlyargs d.params.kw_defaults = some kwd)
    (hrec : r.records = []) (k1 : r.wellSaid = true) (ok : (opensWell r.prog && (frees r.toRowW && r.within.isEmpty)) = true) (hb : r.prog.bare) (hw : r.toRowW.promised)
    (call : WalkO q loose XP YP r.toRowW d kwd fun f vs => PySem.call f vs) : r.Holds := by
  obtain ⟨o1, k5⟩ := Bool.and_eq_true_iff.mp ok
  obtain ⟨k5, k6⟩ := Bool.and_eq_true_iff.mp k5
  obtain ⟨hsame, hu, ha, hap, hm⟩ := frees_parts k5
  have hi := ident_freeW hu ha hap
  have hwi : r.toRowW.claim.within = [] := List.isEmpty_iff.mp k6
  have hwr : (!r.writes || r.records.isEmpty) = true := by
    skip
    rw [hrec]
    simp
  refine ⟨k1, hw, ⟨hb, o1, by show r.toRowW.makers.map _ = []; rw [hm]; rfl⟩, hw.witness, fun w => ⟨(LB w).1, fun s' hs' => ?_⟩⟩
  refine ex_two ((LB w).2 s' hs') fun s₀ s hf hg0 hT hz hgens hg G0 y => ?_
  have RF : RecFacts r.toRowW.records s.heap := recFacts_nil hrec
  refine ⟨s₀, hf, hg0, s, hT, fun n hn => ?_, RF.1, RF.2.1, ?_⟩
  · obtain rfl : n = r.name := by split at hn <;> simp_all
    exact pinned_of_view hg G0 hdef hp hk
  have G : Ground q loose r.toRowW.records XP w s _ _ s.heap := RF.ground G0
  refine ClaimW.callFrom_of_specG (c := r.toRowW.claim) (tree := fun vs => do match ← nsGet mainNs r.name with
      | some f => do ret (← PySem.call f vs)
      | none => unsupported "claim.caller:no-such-global") hz hgens fun args hpre hlay ord hord => ?_
  obtain ⟨⟨vs, s₁⟩, hlaid⟩ := Option.isSome_iff_exists.mp (layAllW_isSome (P := w.params) (ord := ord) G.has args r.toRowW.args s (pre_splitW hpre).1)
  have keeps := layAllW_keeps _ _ _ hlaid
  have hal := layAllW_rest _ _ _ hlaid
  obtain ⟨as, hrd, hin, hold⟩ := reads_layAllW hord _ _ _ hlaid hlay s₁.heap (fun _ _ e => e)
  have L : Laid r.toRowW.records w s s₁ args vs as := ⟨⟨ord, hord, hlaid⟩, hrd, hin, hold, keeps, hal.1.trans hgens, hal.2.2.1⟩
  have G₁ := G.keeps hXk keeps
  refine ex_seven (G₁.fn hdef) fun a o pm cd doc dV kV h1 h2 h3 h4 h5 => ?_
  have hf' := defOf_name hdef ▸ h1
  have h := call w s s₁ _ _ G₁ (hYk _ _ _ y keeps) a o pm cd doc dV kV h2 h3 h4 h5 hf' L.gens args vs as hpre hlay L.reads L.well (L.low G.low)
  refine ⟨vs, s₁, hlaid, ?_⟩
  refine wpAny_bind (wpAny_nsGet G₁.T.g ?_)
  rw [h1]
  refine wpAny_bind (wpAny_mono h (fun v s' g => wpAny_pure ⟨_, rfl, ?_⟩) fun e s' g => ?_)
  · have z := g.laid (c := r.toRowW.claim) hsame hwi hi L
    exact ⟨z.1, z.2.1, z.2.2, fun q => ⟨namesKept_of hT hg _ keeps g.2.1.old, noTable hwr q⟩⟩
  · have z := g.laid (c := r.toRowW.claim) hsame hwi hi L
    exact ⟨z.1, z.2.1, z.2.2, fun q => ⟨namesKept_of hT hg _ keeps g.2.1.old, noTable hwr q⟩⟩
theorem constI {M : Model} {A : Around} {env : Env} {E : Value → Shared → Prop} {h : Heap} {g : Array GenState} {d : Drawn} {t : Nat} {o : OsState} {i : Int} {k pos} {Q : Value → Shared → Prop} (q : Q (.int i t) ⟨h, g, d, t + 1, o⟩) : wpAny M A (eval (.Constant (.int i) k pos) env) Q E ⟨h, g, d, t, o⟩ := wpAny_Constant_int q
theorem constS {M : Model} {A : Around} {env : Env} {E : Value → Shared → Prop} {h : Heap} {g : Array GenState} {d : Drawn} {t : Nat} {o : OsState} {x : Str} {k pos} {Q : Value → Shared → Prop} (q : Q (.str x t) ⟨h, g, d, t + 1, o⟩) : wpAny M A (eval (.Constant (.str x) k pos) env) Q E ⟨h, g, d, t, o⟩ := PySem.Calls.Constant_str q
noncomputable abbrev Ext (h h' : Heap) : Prop := ∀ b o, h.get? b = some o → h'.get? b = some o
noncomputable abbrev ClRet (h₀ : Heap) (L : Addr) (m : Str → Option Value) (news : List (Addr × Obj)) (s : Shared) (Q : Value → Shared → Prop) (R : Tok → Value) : Prop :=
  ∀ (t : Tok) (h' : Heap) (tk' : Nat), Fr h₀ L h' m → News h₀ L h' news → Ext s.heap h' → Q (R t) { s with heap := h', toks := tk' }
noncomputable abbrev Cl (k : Nat) (prog : Program) (w : World) (K : Frag) (p : Program) (loose : List Str) (mean : ExcName → Option Value) (mg mb : Str → Option Value) (f : Addr) (news : List (Addr × Obj)) (pre : Prop) (vs : List Value) (R : Tok → Value) : Prop :=
  ∀ (dp un : Nat) (gd : Option (List Code)) (cn : Str) (cs : Scope) (a : Addr) (ccd : Value) (cl : List (Str × Addr)) (outer : List Env) (A₀ : Around) (base h₀ : Heap) (L : Addr) (m : Str → Option Value) (s : Shared) (Q E : Value → Shared → Prop),
    Below A₀ base outer h₀ → Fr h₀ L s.heap m → K.In h₀ → News h₀ L s.heap news → Top p loose mean mg mb h₀ → cs.kind = .function →
    pre → dp + k < recursionLimit → un + 64 * k < cLine → ClRet h₀ L m news s Q R →
      wpAny (model prog w) (ktrTop dp un gd cn cs L a ccd cl outer) (call (.ref f) vs) Q E s
theorem cl_use {k : Nat} {prog : Program} {w : World} {K : Frag} {p : Program} {loose : List Str} {mean : ExcName → Option Value} {mg mb : Str → Option Value} {f : Addr} {news : List (Addr × Obj)} {pre : Prop} {vs : List Value} {R : Tok → Value}
    {dp un : Nat} {gd : Option (List Code)} {cn : Str} {cs : Scope} {a : Addr} {ccd : Value} {cl : List (Str × Addr)} {outer : List Env} {A₀ : Around} {base h₀ : Heap} {L : Addr} {m : Str → Option Value} {s : Shared} {Q E : Value → Shared → Prop}
    (C : Cl k prog w K p loose mean mg mb f news pre vs R) (B : Below A₀ base outer h₀) (F : Fr h₀ L s.heap m) (X : K.In h₀) (N : News h₀ L s.heap news) (T : Top p loose mean mg mb h₀) (hk : cs.kind = .function) (hp : pre) (hd : dp + k < recursionLimit) (hu : un + 64 * k < cLine)
    (hR : ClRet h₀ L m news s Q R) : wpAny (model prog w) (ktrTop dp un gd cn cs L a ccd cl outer) (call (.ref f) vs) Q E s := C _ _ _ _ _ _ _ _ _ _ _ _ _ _ _ _ _ B F X N T hk hp hd hu hR
theorem cl_ext {H g H' h₀ : Heap} {L L' : Addr} {m' : Str → Option Value} {news news' : List (Addr × Obj)} (G : GSub H g (news.map (·.1))) (N : News h₀ L H news) (F' : Fr g L' H' m') (N' : News g L' H' news') (hs : ∀ p ∈ news, p ∈ news') : Ext H H' :=
  elt_after (InElt.start _) G N F' N' hs
section
variable {h₀ h' : Heap} {L : Addr} {m : Str → Option Value} {news : List (Addr × Obj)} {s : Shared} {Q : Value → Shared → Prop} {tk' : Nat}
theorem cl_retI {x y : Int} {t : Tok} (hret : ClRet h₀ L m news s Q (fun t => .int x t)) (F : Fr h₀ L h' m) (N : News h₀ L s.heap news) (X : Ext s.heap h') (e : y = x) : Q (.int y t) { s with heap := h', toks := tk' } := by
  subst e
  exact hret t h' tk' F (N.grown X) X
theorem cl_retS {x y : Str} {t : Tok} (hret : ClRet h₀ L m news s Q (fun t => .str x t)) (F : Fr h₀ L h' m) (N : News h₀ L s.heap news) (X : Ext s.heap h') (e : y = x) : Q (.str y t) { s with heap := h', toks := tk' } := by
  subst e
  exact hret t h' tk' F (N.grown X) X
theorem cl_retB {x y : Bool} (hret : ClRet h₀ L m news s Q (fun _ => .bool x)) (F : Fr h₀ L h' m) (N : News h₀ L s.heap news) (X : Ext s.heap h') (e : y = x) : Q (.bool y) { s with heap := h', toks := tk' } := by
  subst e
  exact hret 0 h' tk' F (N.grown X) X
end
section
variable {prog : Program} {w : World} {A : Around} {E : Value → Shared → Prop} {s : Shared} {h₀ : Heap} {L : Addr} {m : Str → Option Value} {news : List (Addr × Obj)} {env : Env}
noncomputable def CompGoal (prog : Program) (w : World) (A : Around) (env : Env) (scope : Scope) (cl : List (Str × Addr)) (x : Str) (ifs : List PySem.Expr) (elt : PySem.Expr) (p : Value → Bool) (F : Value → Value → Prop) (Q : Value → Shared → Prop) (it : Value) (s₂ : Shared) : Prop :=
  ∃ I fp wr n P St, it = .ref I ∧ Walks prog w A I fp wr n P St ∧ n ≤ sizeLine ∧ St 0 s₂.heap ∧ (∀ b ∈ fp, b < s₂.heap.objs.size) ∧
      QuietOnC prog w A env scope cl x ifs elt wr P p F s₂ ∧
      (∀ D h' tk ys (vs : List Value), s₂.heap.get? D = none → h'.IsList D ys → h'.PlainList D ys → vs.length = n → (∀ j v, vs[j]? = some v → P j v) → Paired F (vs.filter p) ys.toList →
        (∀ b o, b ∉ wr → s₂.heap.get? b = some o → h'.get? b = some o) → Q (.ref D) { s₂ with heap := h', toks := tk })
theorem comp_eval {elt iter : PySem.Expr} {x : Str} {px : Pos} {ifs : List PySem.Expr} {scope : Scope} {cl : List (Str × Addr)} {pos : Pos} {Q : Value → Shared → Prop} (p : Value → Bool) (G : Value → Value → Prop)
    (hclos : closureFor scope env = pure cl) (hcell : ∀ y ∈ scope.names, y.2 ≠ .cell) (hkind : scope.kind = .function)
    (hnames : ∀ y ∈ scope.names, y.2 = .local → scope.names.lookup y.1 = some .local) (hx : scope.names.lookup x = some .local)
    (h : wpAny (model prog w) A (eval iter env) (fun xv s₁ => wpAny (model prog w) A (pyIter xv) (CompGoal prog w A env scope cl x ifs elt p G Q) E s₁) E s)
    (hs : ∀ x, foldedSetIterable iter env x = pure x := by intro _; rfl) :
    wpAny (model prog w) A (eval (.ListComp elt [⟨.Name x px, iter, ifs, 0⟩] scope pos) env) Q E s :=
  wpAny_ListComp_free p G hclos hcell hkind hnames hx h hs
noncomputable abbrev compTestsOf (ifs : List PySem.Expr) (env : Env) : Sem Bool := forIn ifs true fun c r => if r = true then do let ok ← isTrue c env (eval c env); pure (ForInStep.yield ok) else pure (ForInStep.yield r)
theorem strs_of_signs : ∀ (l : List Nat) (vs : List Value), vs.length = l.length → (∀ (j : Nat) (v : Value), vs[j]? = some v → ∃ c u, l[j]? = some c ∧ v = Value.str ⟨#[c]⟩ u) → StrsAre vs (l.map fun c => ⟨#[c]⟩)
  | [], [], _, _ => .nil
  | [], _ :: _, h, _ => by simp at h
  | _ :: _, [], h, _ => by simp at h
  | c :: l, v :: vs, h, H => by
    obtain ⟨c', u, e, rfl⟩ := H 0 v rfl
    obtain rfl : c = c' := by simpa using e
    exact .cons _ _ (strs_of_signs l vs (by simpa using h) fun j v' hj => H (j + 1) v' hj)
theorem comp_str {scope : Scope} {cl : List (Str × Addr)} {x : Str} {ifs : List PySem.Expr} {elt : PySem.Expr} {Q : Value → Shared → Prop} {y : Str} {t : Tok} {p : Value → Bool} {G : Value → Value → Prop} (hh : A.handled = none) (hsz : y.length ≤ sizeLine)
    (F : Fr h₀ L s.heap m) (N : News h₀ L s.heap news)
    (g1 : ∀ C c u s₃ m₃ E', s.heap.objs.size ≤ C → y.cps.toList.contains c = true → s₃.heap.Ns C m₃ → m₃ x = some (.str ⟨#[c]⟩ u) → Fr h₀ L s₃.heap m → News h₀ L s₃.heap news → (∀ b o, s.heap.get? b = some o → s₃.heap.get? b = some o) →
      wpAny (model prog w) A (compTestsOf ifs (compEnvC scope cl C env)) (fun ok s₄ => ok = p (.str ⟨#[c]⟩ u) ∧ Keeps s₃ s₄) E' s₃)
    (g2 : ∀ C c u s₃ m₃ E', s.heap.objs.size ≤ C → y.cps.toList.contains c = true → p (.str ⟨#[c]⟩ u) = true → s₃.heap.Ns C m₃ → m₃ x = some (.str ⟨#[c]⟩ u) → Fr h₀ L s₃.heap m → News h₀ L s₃.heap news → (∀ b o, s.heap.get? b = some o → s₃.heap.get? b = some o) →
      wpAny (model prog w) A (eval elt (compEnvC scope cl C env)) (fun r s₄ => G (.str ⟨#[c]⟩ u) r ∧ Keeps s₃ s₄) E' s₃)
    (g3 : ∀ D n (vs ys : List Value) h' tk, Fr h₀ L h' m → News h₀ L h' ((D, ({ cls := .type "list", data := .seq ys.toArray n } : Obj)) :: news) → (∀ p ∈ news, p.1 ≠ D) → (∀ b o, s.heap.get? b = some o → h'.get? b = some o) →
      StrsAre vs (y.cps.toList.map fun c => ⟨#[c]⟩) → Paired G (vs.filter p) ys → Q (.ref D) { s with heap := h', toks := tk }) :
    wpAny (model prog w) A (pyIter (.str y t)) (CompGoal prog w A env scope cl x ifs elt p G Q) E s := by
  refine wpAny_pyIter_str fun o St W hst => ?_
  have up : ∀ (h' : Heap), (∀ b o', b ∉ [s.heap.objs.size] → (s.heap.push o).get? b = some o' → h'.get? b = some o') → ∀ b o', s.heap.get? b = some o' → h'.get? b = some o' :=
    fun h' hk b o' e => hk b o' (fun q => Nat.lt_irrefl _ (List.mem_singleton.mp q ▸ Heap.lt_size e)) (Heap.get?_push_of_some _ e)
  refine ⟨s.heap.objs.size, [s.heap.objs.size], [s.heap.objs.size], y.cps.size, SignAt y, St, rfl, W A hh, hsz, hst, ?_, ⟨?_, ?_⟩, ?_⟩
  · intro b hb
    show b < (s.heap.push o).objs.size
    rw [Heap.size_push, List.mem_singleton.mp hb]
    exact Nat.lt_succ_self _
  · intro C i v s₃ m₃ E' hC hP hn hm hk _
    obtain ⟨c, u, hc, rfl⟩ := hP
    exact g1 C c u s₃ m₃ E' (by have : (s.heap.push o).objs.size ≤ C := hC; rw [Heap.size_push] at this; omega) (List.contains_iff_mem.mpr (by rw [← Array.getElem?_toList] at hc; exact List.mem_of_getElem? hc)) hn hm (F.keeps (up _ hk)) (N.grown (up _ hk)) (up _ hk)
  · intro C i v s₃ m₃ E' hC hP hp hn hm hk _
    obtain ⟨c, u, hc, rfl⟩ := hP
    exact g2 C c u s₃ m₃ E' (by have : (s.heap.push o).objs.size ≤ C := hC; rw [Heap.size_push] at this; omega) (List.contains_iff_mem.mpr (by rw [← Array.getElem?_toList] at hc; exact List.mem_of_getElem? hc)) hp hn hm (F.keeps (up _ hk)) (N.grown (up _ hk)) (up _ hk)
  · intro D h' tk ys vs hnew hlD hplD hlen hP hF hk
    obtain ⟨n, hD⟩ := hplD
    have hDnew : s.heap.get? D = none := by
      cases e : s.heap.get? D with
      | none => rfl
      | some o' => rw [Heap.get?_push_of_some _ e] at hnew; cases hnew
    have hD0 : h₀.get? D = none := by
      cases e : h₀.get? D with
      | none => rfl
      | some o' => rw [F.keep _ _ e] at hDnew; cases hDnew
    obtain ⟨oL, _, _, hL, _⟩ := F.ns
    have hDL : D ≠ L := by rintro rfl; rw [hL] at hDnew; cases hDnew
    refine g3 D n vs ys.toList h' tk (F.keeps (up h' hk)) (fun q hq => ?_) (fun q hq => ?_) (up h' hk) ?_ hF
    · rcases List.mem_cons.mp hq with rfl | hq
      · exact ⟨by rw [Array.toArray_toList]; exact hD, hDL, hD0⟩
      · exact (N.grown (up h' hk)) q hq
    · rintro rfl
      rw [(N q hq).1] at hDnew; cases hDnew
    · exact strs_of_signs _ _ (by rw [hlen]; simp) fun j v hj => by
        obtain ⟨c, u, e, r⟩ := hP j v hj
        exact ⟨c, u, by rw [Array.getElem?_toList]; exact e, r⟩
end
theorem nameX_L2 {M : Model} {A : Around} {E : Value → Shared → Prop} {s : Shared} {h₀ : Heap} {L a : Addr} {m : Str → Option Value} {cn : Str} {cs : Scope} {ccd : Value} {cl : List (Str × Addr)} {x : Str} {pos : Pos} {v : Value} {Q : Value → Shared → Prop}
    (hx : (envX cn cs L a ccd cl).kindOf x = some .local) (hk : cs.kind = .function) (hd : (x == ("__debug__" : Str)) = false) (F : Fr h₀ L s.heap m) (hv : m x = some v) (h : Q v s) : wpAny M A (eval (.Name x pos) (envX cn cs L a ccd cl)) Q E s := nameX_L F hv h hk hx hd
local macro_rules | `(tactic| walk_at $s:str) => `(tactic| k_extra $s)
local macro_rules | `(tactic| cell_enter) => `(tactic| k_extra "my_cell_enter")
theorem rg_Con1_1 : True := by
  k_with_none
  (k_with "my_cell_enter" => (refine' code_defG (B := by k_asm) (F := by k_asm) (by k_asm) (N := by k_asm) (T := by k_asm) (hA := by exact rfl) (hf := by exact rfl) (hke := by assumption) (ho := by k_is) (hcd := by k_is) (hroom := by ktr_room) (hbind := by exact BindsTo.of_eq rfl) (hloc := by exact locs rfl) ?_ (hco := by exact rfl) (hgen := by exact rfl) (hk := by exact rfl) (hcell := by decide); k_whole; walk_at "i4bcc05"))
  (k_with "eval Constant int" => (refine constI ?_))
  (k_with "eval Constant str" => (refine constS ?_))
  (k_with "eval Call" => ((show let Q9 := _; wpAny _ _ _ Q9 _ _); intro Q9; refine Call_ ?_))
  (k_with "eval Call Attribute" => ((show let Q9 := _; wpAny _ _ _ Q9 _ _); intro Q9; refine MethodCall_ ?_))
  (k_with "exec If" => ((show let Q9 := _; wpAny _ _ _ Q9 _ _); intro Q9; refine wpAny_If ?_))
  (k_with "exec Assign" => ((show let Q9 := _; wpAny _ _ _ Q9 _ _); intro Q9; refine wpAny_Assign_Name ?_))
  (k_with "exec AugAssign" => ((show let Q9 := _; wpAny _ _ _ Q9 _ _); intro Q9; refine wpAny_AugAssign_Name ?_))
  (k_with "eval BinOp" => ((show let Q9 := _; wpAny _ _ _ Q9 _ _); intro Q9; refine wpAny_BinOp ?_))
  (k_with "eval Compare" => ((show let Q9 := _; wpAny _ _ _ Q9 _ _); intro Q9; refine wpAny_Compare1 ?_))
  (k_with "isTrue Compare" => ((show let Q9 := _; wpAny _ _ _ Q9 _ _); intro Q9; refine wpAny_isTrue_Compare1 ?_))
  (k_with "eval Subscript" => ((show let Q9 := _; wpAny _ _ _ Q9 _ _); intro Q9; refine Subscript_ ?_))
  (k_with "i4bcc05" => (intro g' L' h' FG' F' N' B' X' T' GS'; (try dsimp only); (try k_lift B'); (try k_fold)))
  (k_with "cb_end" => ((first | refine' cl_retI hret (F := by k_asm) (N := by assumption) (X := by (refine cl_ext (by assumption) (by assumption) (by assumption) (by assumption) ?_; first | exact fun _ h => h | kcj_all)) (e := by first | exact rfl | cb_eq) | refine' cl_retB hret (F := by k_asm) (N := by assumption) (X := by (refine cl_ext (by assumption) (by assumption) (by assumption) (by assumption) ?_; first | exact fun _ h => h | kcj_all)) (e := by first | exact rfl | cb_eq) | refine' cl_retS hret (F := by k_asm) (N := by assumption) (X := by (refine cl_ext (by assumption) (by assumption) (by assumption) (by assumption) ?_; first | exact fun _ h => h | kcj_all)) (e := by first | exact rfl | cb_eq))))
  trivial
noncomputable def b1Entries (P : Params) : Array (Int × Value) := match (o85 P).data with | .set es _ _ => es | _ => #[]
noncomputable def b1Codes (P : Params) : List Int := ((b1Entries P).toList.map (·.1))
noncomputable def b1List : List Int := [173, 847, 6150, 6155, 6156, 6157, 8203, 8204, 8205, 8288, 65279, 65024, 65025, 65026, 65027, 65028, 65029, 65030, 65031, 65032, 65033, 65034, 65035, 65036, 65037, 65038, 65039]
noncomputable def inB1 (c : Int) : Bool := b1List.any (fun k => k == c)
theorem elems85 (prog : Program) (w : World) : ∀ l : List (Int × Value), (l.all fun e => match e.2 with | .int i _ => decide (e.1 = hashInt i) | _ => false) = true → ElemsOf (intKind prog w) l := by
  intro l hl e he
  have h := List.all_eq_true.mp hl e he
  obtain ⟨x, v⟩ := e
  cases v with
  | int i t =>
    have h' : x = hashInt i := of_decide_eq_true h
    exact ⟨⟨i, by show Value.isInt i (.int i t) = true; simp [Value.isInt], h'⟩, rfl⟩
  | _ => cases h
theorem any_same {l1 l2 : List Int} (h : (l1.all l2.contains && l2.all l1.contains) = true) (k : Int) : (l1.any fun x => x == k) = l2.any fun x => x == k := by
  obtain ⟨h1, h2⟩ := Bool.and_eq_true_iff.mp h
  rw [Bool.eq_iff_iff, List.any_eq_true, List.any_eq_true]
  constructor
  · rintro ⟨x, hx, e⟩
    exact ⟨x, by simpa using List.all_eq_true.mp h1 x hx, e⟩
  · rintro ⟨x, hx, e⟩
    exact ⟨x, by simpa using List.all_eq_true.mp h2 x hx, e⟩
noncomputable def b1Vals (P : Params) : List Int := (b1Entries P).toList.map fun e => match e.2 with | .int i _ => i | _ => 0
theorem b1_vals (P : Params) : (b1List.all (b1Vals P).contains && (b1Vals P).all b1List.contains) = true := by kernel_rfl
theorem b1_ints (P : Params) : ((b1Entries P).toList.all fun e => match e.2 with | .int _ _ => true | _ => false) = true := by kernel_rfl
theorem b1_perm (P : Params) (k : Int) : inB1 k = ((b1Entries P).toList.any fun e => Value.isInt k e.2) := by
  unfold inB1
  rw [any_same (b1_vals P) k]
  unfold b1Vals
  rw [List.any_map, Bool.eq_iff_iff, List.any_eq_true, List.any_eq_true]
  refine exists_congr fun e => and_congr_right fun he => ?_
  have h := List.all_eq_true.mp (b1_ints P) e he
  obtain ⟨x, v⟩ := e
  cases v with
  | int i t => simp [Value.isInt]
  | _ => cases h
theorem set85 {w : World} {h : Heap} (prog : Program) (X : (K0 w.params).In h) : h.SetOf (intKind prog w) 85 inB1 27 := by
  refine ⟨o85 w.params, b1Entries w.params, 29, _, X 85 _ rfl, ⟨rfl, rfl, rfl⟩, rfl, elems85 prog w _ (by kernel_rfl), fun k => ?_, by show 27 < scanBound; decide, by show (SetTable.fits _ _) = true; kernel_rfl, rfl⟩
  rw [b1_perm w.params k, List.any_eq_true]
  exact Iff.rfl
noncomputable def b3List : List DictEntry := b3Entries 0 (dictAt 9).1 (dictAt 9).2
noncomputable def b3find (c : Int) : Option Value := findBy Value.isInt b3List.toArray c
theorem b3_strs : (b3List.all fun e => match e.key, e.val with | .int i _, .str _ _ => decide (e.hash = hashInt i) | _, _ => false) = true := by kernel_rfl
theorem b3_is (e : DictEntry) (h : (match e.key, e.val with | .int i _, .str _ _ => decide (e.hash = hashInt i) | _, _ => false) = true) : ∃ i t s u, e.key = .int i t ∧ e.val = .str s u ∧ e.hash = hashInt i := by
  obtain ⟨x, k, v⟩ := e
  cases k with
  | int i t =>
    cases v with
    | str s u => exact ⟨i, t, s, u, rfl, rfl, of_decide_eq_true h⟩
    | _ => exact (Bool.false_ne_true h).elim
  | _ => exact (Bool.false_ne_true h).elim
theorem b3_keys (prog : Program) (w : World) : KeysOf (intKind prog w) b3List.toArray := by
  intro e he
  obtain ⟨i, t, s, u, e1, _, e3⟩ := b3_is e (List.all_eq_true.mp b3_strs e (by simpa using he))
  exact ⟨i, by rw [e1]; show Value.isInt i (.int i t) = true; simp [Value.isInt], e3⟩
theorem b3_val {c : Int} {v : Value} (h : b3find c = some v) : ∃ s t, v = .str s t := by
  unfold b3find findBy at h
  obtain ⟨e, he, rfl⟩ := Option.map_eq_some_iff.mp h
  obtain ⟨i, t, s, u, _, e2, _⟩ := b3_is e (List.all_eq_true.mp b3_strs e (by simpa using Array.mem_of_find?_eq_some he))
  exact ⟨s, u, e2⟩
theorem map96 {w : World} {h : Heap} (prog : Program) (X : (K0 w.params).In h) : h.MapOf (intKind prog w) 96 b3find :=
  ⟨o96, b3List.toArray, 650, X 96 _ rfl, ⟨rfl, rfl, rfl⟩, rfl, b3_keys prog w, fun _ => rfl⟩
theorem get96_meth {w : World} {A : Around} {E : Value → Shared → Prop} {s : Shared} {h₀ : Heap} {L : Addr} {m : Str → Option Value} {prog : Program} {pl : Sem Bool} {Q : Value × List Value → Shared → Prop} (F : Fr h₀ L s.heap m) (X : (K0 w.params).In h₀) (h : Q (.builtin "dict.get", [.ref 96]) s) :
    wpAny (model prog w) A (getMethod (.ref 96) "get" pl) Q E s :=
  getMethod_builtin (map96 prog (X.keeps F.keep)).typeIs PySem.F.plainAttrs_dict PySem.F.slot_dict_get PySem.F.type_dict_get (map96 prog (X.keeps F.keep)).noDict h
theorem get96_call {w : World} {A : Around} {E : Value → Shared → Prop} {s : Shared} {h₀ : Heap} {L : Addr} {m : Str → Option Value} {prog : Program} {Q : Value → Shared → Prop} {c : Int} {t : Tok} (F : Fr h₀ L s.heap m) (X : (K0 w.params).In h₀)
    (h1 : b3find c = none → Q .none { s with toks := s.toks + 1 }) (h2 : ∀ x u, b3find c = some (.str x u) → Q (.str x u) { s with toks := s.toks + 1 }) :
    wpAny (model prog w) A (call (.builtin "dict.get") [.ref 96, .int c t]) Q E s := by
  refine call_meetsIn PySem.F.slot_dict_get (map96 prog (X.keeps F.keep)).typeIs PySem.F.entry_dict_get (PySem.F.args_dict_get_2 _ _) (meets_dict_get (intKind prog w) 96 (intKind_is prog w c t) rfl) ⟨_, map96 prog (X.keeps F.keep), ?_⟩
  cases e : b3find c with
  | none => exact h1 e
  | some v =>
    obtain ⟨x, u, rfl⟩ := b3_val e
    exact h2 x u e
theorem rg_Con1_2 : True := by
  (k_with "getMethod ref" => (k_here; (with_reducible show wpAny _ _ (getMethod (Value.ref 96) _ _) _ _ _); k_dflt (refine' get96_meth (F := by k_asm) (X := by k_asm) ?_; k_whole)))
  (k_with "call builtin:dict.get" => (k_here; (with_reducible show wpAny _ _ (call (Value.builtin "dict.get") [Value.ref 96, _]) _ _ _); k_dflt (refine' get96_call (F := by k_asm) (X := by k_asm) ?_ ?_); (first | (intro _ _ _) | intro _)))
  trivial
theorem in85 {w : World} {A : Around} {E : Value → Shared → Prop} {s : Shared} {h₀ : Heap} {L : Addr} {m : Str → Option Value} {prog : Program} {Q : Value → Shared → Prop} {c : Int} {t : Tok} (F : Fr h₀ L s.heap m) (X : (K0 w.params).In h₀) (h : Q (.bool (inB1 c)) { s with toks := s.toks + 1 }) :
    wpAny (model prog w) A (compareOp .In (.int c t) (.ref 85)) Q E s :=
  wpAny_inSet_of (intKind_is prog w c t) rfl (set85 prog (X.keeps F.keep)) h
theorem rg_Con1_4 : True := by
  (k_with "compareOp In int ref" => (k_here; (with_reducible show wpAny _ _ (compareOp CmpOp.In _ (Value.ref 85)) _ _ _); k_dflt (refine' in85 (F := by k_asm) (X := by k_asm) ?_; k_whole)))
  trivial
set_option maxHeartbeats 4000000 in
theorem c_inB1 (w : World) (q : Program) (mean : ExcName → Option Value) (mg mb : Str → Option Value) (loose : List Str) (cbNews : List (Addr × Obj)) (c : Nat) (tc : Tok) :
  Cl 1 rw_sn0078_01.row.prog w (K0 w.params) q loose mean mg mb 95 cbNews True [.str ⟨#[c]⟩ tc] (fun _ => .bool (inB1 c)) := by
  k_fill
  dsimp only [Cl, ClRet]; intros; rename_i hret
  refine wpAny_call ?_
  k_dflt cell_enter
  k_steps
  all_goals k_extra "cb_end"
set_option maxHeartbeats 4000000 in
theorem c_iseof (w : World) (q : Program) (mean : ExcName → Option Value) (mg mb : Str → Option Value) (loose : List Str) (cbNews : List (Addr × Obj)) (i : Int) (ti : Tok) :
  Cl 1 rw_sn0078_01.row.prog w (K0 w.params) q loose mean mg mb 151 cbNews True [.int i ti] (fun _ => .bool (decide (i = 0))) := by
  k_fill
  dsimp only [Cl, ClRet]; intros; rename_i hret
  refine wpAny_call ?_
  k_dflt cell_enter
  k_steps
  all_goals k_extra "cb_end"
theorem rg_Con1_5 : True := by
  (k_with "call builtin:str.lower" => ((refine SCL.lower (hfit := by (show (1 : Nat) ≤ 5592405; omega)) ?_); intro _))
  trivial
noncomputable def mapB3 (c : Nat) : Str := match b3find c with
  | some (.str x _) => x
  | _ => Txt.lower ⟨#[c]⟩
set_option maxHeartbeats 4000000 in
theorem c_mapB3 (w : World) (q : Program) (mean : ExcName → Option Value) (mg mb : Str → Option Value) (loose : List Str) (cbNews : List (Addr × Obj)) (c : Nat) (tc : Tok) :
  Cl 1 rw_sn0078_01.row.prog w (K0 w.params) q loose mean mg mb 141 cbNews True [.str ⟨#[c]⟩ tc] (fun t => .str (mapB3 c) t) := by
  k_fill
  dsimp only [Cl, ClRet]; intros; rename_i hret
  refine wpAny_call ?_
  k_dflt cell_enter
  k_with "tree" => (unfold mapB3; simp_all)
  k_steps
  all_goals k_extra "cb_end"
theorem rg_Con2_1 : True := by
  k_with_none
  (k_with "my_cell_enter" => (refine' code_defG (B := by k_asm) (F := by k_asm) (by k_asm) (N := by k_asm) (T := by k_asm) (hA := by exact rfl) (hf := by exact rfl) (hke := by assumption) (ho := by k_is) (hcd := by k_is) (hroom := by ktr_room) (hbind := by exact BindsTo.of_eq rfl) (hloc := by exact locs rfl) ?_ (hco := by exact rfl) (hgen := by exact rfl) (hk := by exact rfl) (hcell := by decide); k_whole; walk_at "i4bcc05"))
  (k_with "eval Constant int" => (refine constI ?_))
  (k_with "eval Constant str" => (refine constS ?_))
  (k_with "eval Call" => ((show let Q9 := _; wpAny _ _ _ Q9 _ _); intro Q9; refine Call_ ?_))
  (k_with "eval Call Attribute" => ((show let Q9 := _; wpAny _ _ _ Q9 _ _); intro Q9; refine MethodCall_ ?_))
  (k_with "exec If" => ((show let Q9 := _; wpAny _ _ _ Q9 _ _); intro Q9; refine wpAny_If ?_))
  (k_with "exec Assign" => ((show let Q9 := _; wpAny _ _ _ Q9 _ _); intro Q9; refine wpAny_Assign_Name ?_))
  (k_with "exec AugAssign" => ((show let Q9 := _; wpAny _ _ _ Q9 _ _); intro Q9; refine wpAny_AugAssign_Name ?_))
  (k_with "eval BinOp" => ((show let Q9 := _; wpAny _ _ _ Q9 _ _); intro Q9; refine wpAny_BinOp ?_))
  (k_with "eval Compare" => ((show let Q9 := _; wpAny _ _ _ Q9 _ _); intro Q9; refine wpAny_Compare1 ?_))
  (k_with "isTrue Compare" => ((show let Q9 := _; wpAny _ _ _ Q9 _ _); intro Q9; refine wpAny_isTrue_Compare1 ?_))
  (k_with "eval Subscript" => ((show let Q9 := _; wpAny _ _ _ Q9 _ _); intro Q9; refine Subscript_ ?_))
  (k_with "i4bcc05" => (intro g' L' h' FG' F' N' B' X' T' GS'; (try dsimp only); (try k_lift B'); (try k_fold)))
  (k_with "cb_end" => ((first | refine' cl_retI hret (F := by k_asm) (N := by assumption) (X := by (refine cl_ext (by assumption) (by assumption) (by assumption) (by assumption) ?_; first | exact fun _ h => h | kcj_all)) (e := by first | exact rfl | cb_eq) | refine' cl_retB hret (F := by k_asm) (N := by assumption) (X := by (refine cl_ext (by assumption) (by assumption) (by assumption) (by assumption) ?_; first | exact fun _ h => h | kcj_all)) (e := by first | exact rfl | cb_eq) | refine' cl_retS hret (F := by k_asm) (N := by assumption) (X := by (refine cl_ext (by assumption) (by assumption) (by assumption) (by assumption) ?_; first | exact fun _ h => h | kcj_all)) (e := by first | exact rfl | cb_eq))))
  trivial
theorem mapB3_len (c : Nat) : (mapB3 c).length ≤ 20 := by
  have hb : (b3List.all fun e => match e.val with | .str s _ => decide (s.length ≤ 20) | _ => true) = true := by kernel_rfl
  unfold mapB3
  cases e : b3find c with
  | none =>
    have h := len_lower (⟨#[c]⟩ : Str)
    have h1 : (⟨#[c]⟩ : Str).length = 1 := rfl
    show (Txt.lower ⟨#[c]⟩).length ≤ 20
    omega
  | some v =>
    obtain ⟨s, u, rfl⟩ := b3_val e
    unfold b3find findBy at e
    obtain ⟨d, hd, e2⟩ := Option.map_eq_some_iff.mp e
    have hm : d ∈ b3List := by simpa using Array.mem_of_find?_eq_some hd
    have h := List.all_eq_true.mp hb d hm
    rw [e2] at h
    exact of_decide_eq_true h
theorem rg_Con2_2 : True := by
  (k_with "call ref" => (k_here; (with_reducible show wpAny _ _ (call (Value.ref 95) _) _ _ _); k_dflt (refine' cl_use (c_inB1 _ _ _ _ _ _ _ _ _) (B := by k_asm) (F := by k_asm) (X := by k_asm) (N := by k_asm) (T := by k_asm) (hk := by first | exact rfl | assumption) trivial (hd := by ktr_room) (hu := by ktr_units) ?_); intro _ _ _ _ _ _; (try dsimp only)))
  (k_with "call ref" => (k_here; (with_reducible show wpAny _ _ (call (Value.ref 141) _) _ _ _); k_dflt (refine' cl_use (c_mapB3 _ _ _ _ _ _ _ _ _) (B := by k_asm) (F := by k_asm) (X := by k_asm) (N := by k_asm) (T := by k_asm) (hk := by first | exact rfl | assumption) trivial (hd := by ktr_room) (hu := by ktr_units) ?_); intro _ _ _ _ _ _; (try dsimp only)))
  trivial
noncomputable def tokList (P : Params) : List DictEntry := tokEntries P 0 (dictAt 61).1 (dictAt 61).2
noncomputable def tokTab : List (Str × Int) := ((dictAt 61).1.zip (dictAt 61).2).filterMap fun x => match x with
  | (some (.Constant (.str s) _ _), .Name n _) => some (s, (constAt n).1)
  | _ => none
noncomputable def tokNum (k : Str) : Option Int := (tokTab.find? fun x => x.1 == k).map (·.2)
noncomputable def tokFind (P : Params) (k : Str) : Option Value := findBy Value.isStrOf (tokList P).toArray k
theorem tok_all (P : Params) : ((tokList P).all fun e => match e.key, e.val with | .str _ _, .int _ _ => true | _, _ => false) = true := by kernel_rfl
noncomputable def KeyHashed (P : Params) : List DictEntry → Prop
  | [] => True
  | e :: r => (∃ x t, e.key = .str x t ∧ e.hash = PyData.keyHash P x) ∧ KeyHashed P r
theorem KeyHashed.mem {P : Params} {l : List DictEntry} (h : KeyHashed P l) : ∀ e ∈ l, ∃ x t, e.key = .str x t ∧ e.hash = PyData.keyHash P x := by
  induction l with
  | nil => intro e m; cases m
  | cons a r ih =>
    intro e m
    rcases List.mem_cons.mp m with rfl | m
    · exact h.1
    · exact ih h.2 e m
theorem tokEntries_hashed (P : Params) (ks : List (Option PySem.Expr)) : ∀ (i : Nat) (vs : List PySem.Expr), KeyHashed P (tokEntries P i ks vs) := by
  induction ks with
  | nil => intro i vs; exact trivial
  | cons k ks ih =>
    intro i vs
    cases k with
    | none => exact trivial
    | some k =>
      cases vs with
      | nil => cases k <;> first | exact trivial | (rename_i c _ _; cases c <;> exact trivial)
      | cons v vs => cases k <;> first | exact trivial | (rename_i c _ _; cases c <;> first | exact trivial | (cases v <;> first | exact trivial | exact ⟨⟨_, _, rfl, rfl⟩, ih _ _⟩))
theorem tok_keys (prog : Program) (w : World) : KeysOf (strKind prog w) (tokList w.params).toArray := by
  intro e he
  obtain ⟨x, t, e1, e2⟩ := (tokEntries_hashed w.params (dictAt 61).1 0 (dictAt 61).2).mem e (by simpa [tokList] using he)
  exact ⟨x, by rw [e1]; exact strKind_is prog w x t, e2⟩
theorem map142 {w : World} {h : Heap} (prog : Program) (X : (K0 w.params).In h) : h.MapOf (strKind prog w) 142 (tokFind w.params) :=
  ⟨o142 w.params, (tokList w.params).toArray, 48, X 142 _ rfl, ⟨rfl, rfl, rfl⟩, rfl, tok_keys prog w, fun _ => rfl⟩
theorem tok_pairs (P : Params) : (tokList P).map (fun e => (match e.key, e.val with | .str x _, .int i _ => (x, i) | _, _ => (Str.ofString "", 0))) = tokTab := by kernel_rfl
theorem tok_is (e : DictEntry) (h : (match e.key, e.val with | .str _ _, .int _ _ => true | _, _ => false) = true) : ∃ x t i u, e.key = .str x t ∧ e.val = .int i u := by
  obtain ⟨y, k, v⟩ := e
  cases k with
  | str x t =>
    cases v with
    | int i u => exact ⟨x, t, i, u, rfl, rfl⟩
    | _ => exact (Bool.false_ne_true h).elim
  | _ => exact (Bool.false_ne_true h).elim
theorem tok_tells (P : Params) (k : Str) : (tokFind P k = none ∧ tokNum k = none) ∨ ∃ i t, tokFind P k = some (.int i t) ∧ tokNum k = some i := by
  unfold tokFind findBy tokNum
  rw [← tok_pairs P, List.find?_toArray]
  have ha := tok_all P
  generalize tokList P = l at ha ⊢
  induction l with
  | nil => left; exact ⟨rfl, rfl⟩
  | cons e r ih =>
    rw [List.all_cons, Bool.and_eq_true] at ha
    obtain ⟨x, t, i, u, e1, e2⟩ := tok_is e ha.1
    obtain ⟨h, key, v⟩ := e
    subst e1 e2
    simp only [List.map_cons, List.find?_cons]
    have e1 : Value.isStrOf k (.str x t) = (x == k) := rfl
    rw [e1]
    cases hx : (x == k) with
    | true => right; exact ⟨i, u, rfl, rfl⟩
    | false => exact ih ha.2
theorem in142 {w : World} {A : Around} {E : Value → Shared → Prop} {s : Shared} {h₀ : Heap} {L : Addr} {m : Str → Option Value} {prog : Program} {Q : Value → Shared → Prop} {k : Str} {t : Tok} (F : Fr h₀ L s.heap m) (X : (K0 w.params).In h₀)
    (h : Q (.bool (tokNum k).isSome) { s with toks := s.toks + 1 }) :
    wpAny (model prog w) A (compareOp .In (.str k t) (.ref 142)) Q E s := by
  refine wpAny_in_of (strKind_is prog w k t) rfl (map142 prog (X.keeps F.keep)) ?_
  rcases tok_tells w.params k with ⟨e1, e2⟩ | ⟨i, u, e1, e2⟩ <;> (rw [e2] at h; rw [e1]; exact h)
theorem item142 {w : World} {A : Around} {E : Value → Shared → Prop} {s : Shared} {h₀ : Heap} {L : Addr} {m : Str → Option Value} {prog : Program} {Q : Value → Shared → Prop} {value slice : PySem.Expr} {k : Str} {t : Tok} (F : Fr h₀ L s.heap m) (X : (K0 w.params).In h₀)
    (hb : (tokNum k).isSome = true) (h : ∀ i u, tokNum k = some i → Q (.int i u) { s with toks := s.toks + 1 })
    (hs : subscripted slice false (.ref 142) (.str k t) = operate [.ref 142, .str k t] (getItem (.ref 142) (.str k t)) := by with_unfolding_all rfl) :
    wpAny (model prog w) A (subscriptTail value slice (.ref 142) (.str k t)) Q E s := by
  have M := map142 prog (X.keeps F.keep)
  rcases tok_tells w.params k with ⟨e1, e2⟩ | ⟨i, u, e1, e2⟩
  · rw [e2] at hb; cases hb
  · exact tail_any M.typeIs slot_dict_getitem.lookup (wpAny_getItem_of (strKind_is prog w k t) M e1 (h i u e2)) hs
theorem rg_Con2_4 : True := by
  (k_with "compareOp In str ref" => (k_here; (with_reducible show wpAny _ _ (compareOp CmpOp.In _ (Value.ref 142)) _ _ _); k_dflt (refine' in142 (F := by k_asm) (X := by k_asm) ?_; k_whole)))
  (k_with "subscriptTail" => (k_here; (with_reducible show wpAny _ _ (subscriptTail _ _ (Value.ref 142) (Value.str _ _)) _ _ _); k_dflt (refine' item142 (F := by k_asm) (X := by k_asm) (hb := by first | assumption | (simp only [decide_eq_true_eq] at *; assumption)) ?_ (hs := by with_unfolding_all rfl)); intro _ _ _))
  trivial
noncomputable def isSign (v : Value) : Option Nat := match v with
  | .str ⟨⟨[c]⟩⟩ _ => some c
  | _ => none
noncomputable def keepSign (v : Value) : Bool := match isSign v with
  | some c => !inB1 c
  | none => false
noncomputable def mapsSign (v r : Value) : Prop := ∀ c, isSign v = some c → ∃ t, r = .str (mapB3 c) t
theorem mapsSign_mk (c : Nat) (u t : Tok) : mapsSign (.str ⟨#[c]⟩ u) (.str (mapB3 c) t) := by
  intro c' h
  have : c = c' := by simpa [isSign] using h
  subst this
  exact ⟨t, rfl⟩
noncomputable def lawBare (x : Str) : List Str := (x.cps.toList.filter fun c : Nat => !inB1 c).map mapB3
noncomputable def bareText (x : Str) : Str := Txt.join (Str.ofString "") (lawBare x)
theorem bare_strs (l : List Nat) : ∀ (vs ys : List Value), StrsAre vs (l.map fun c => ⟨#[c]⟩) → Paired mapsSign (vs.filter keepSign) ys → StrsAre ys ((l.filter fun c : Nat => !inB1 c).map mapB3) := by
  induction l with
  | nil =>
    intro vs ys h1 h
    have h1' : StrsAre vs [] := h1
    cases h1'; cases h; exact .nil
  | cons c l ih =>
    intro vs ys h1 h
    have h1' : StrsAre vs ((⟨#[c]⟩ : Str) :: l.map fun c => ⟨#[c]⟩) := h1
    cases h1' with
    | cons _ u r =>
      have e : keepSign (.str ⟨#[c]⟩ u) = !inB1 c := rfl
      cases hc : inB1 c with
      | true =>
        rw [List.filter_cons_of_neg (by rw [e, hc]; decide)] at h
        rw [List.filter_cons_of_neg (by rw [hc]; decide)]
        exact ih _ ys r h
      | false =>
        rw [List.filter_cons_of_pos (by rw [e, hc]; rfl)] at h
        rw [List.filter_cons_of_pos (by rw [hc]; rfl)]
        cases h with
        | cons h1 h2 =>
          obtain ⟨t, rfl⟩ := h1 c rfl
          exact .cons _ t (ih _ _ r h2)
theorem bare_sum : ∀ l : List Nat, ((l.map mapB3).map (·.length)).sum ≤ 20 * l.length
  | [] => by simp
  | c :: l => by
    have h1 := mapB3_len c
    have h2 := bare_sum l
    simp only [List.map_cons, List.sum_cons, List.length_cons] at *
    omega
theorem join_number {prog : Program} {w : World} {A : Around} {E : Value → Shared → Prop} {s : Shared} {h₀ : Heap} {L : Addr} {news : List (Addr × Obj)} {D : Addr} {n : Nat} {x : Str} {t : Tok} {vs ys : List Value} {Q : Value → Shared → Prop}
    (N : News h₀ L s.heap news) (hm : (D, ({ cls := .type "list", data := .seq ys.toArray n } : Obj)) ∈ news) (hs : StrsAre vs (x.cps.toList.map fun c => ⟨#[c]⟩)) (hp : Paired mapsSign (vs.filter keepSign) ys) (hx : x.length ≤ 1000)
    (h : ∀ t' k, Q (.str (bareText x) t') { s with toks := k }) : wpAny (model prog w) A (call (.builtin "str.join") [.str (Str.ofString "") t, .ref D]) Q E s := by
  refine join_list (ys := lawBare x) (⟨_, (N _ hm).1, rfl, n, rfl⟩ : s.heap.IsList D ys.toArray) (by simpa [lawBare] using bare_strs _ vs ys hs hp) ?_ h
  have h1 := bare_sum (x.cps.toList.filter fun c : Nat => !inB1 c)
  have h2 : (x.cps.toList.filter fun c : Nat => !inB1 c).length ≤ x.cps.toList.length := List.length_filter_le _ _
  have h3 : x.cps.toList.length = x.length := by simp [Str.length]
  have h4 : (Str.ofString "").length = 0 := by decide +kernel
  rw [h4]
  unfold lawBare
  omega
theorem rg_Con2_6 : True := by
  (k_with "call builtin:str.join" => (k_here; k_dflt (refine' join_number (N := by k_asm) (hm := by k_mem) (hs := by assumption) (hp := by assumption) (hx := by assumption) ?_); intro _ _))
  (k_with "eval ListComp" => (k_here; k_dflt (refine' comp_eval keepSign mapsSign (hclos := by exact rfl) (hcell := by decide) (hkind := by exact rfl) (hnames := by decide) (hx := by exact rfl) ?_); (try dsimp only)))
  (k_with "pyIter str" => (k_here; k_dflt (refine' comp_str (hh := by exact rfl) ?_ (F := by k_asm) (N := by k_asm) ?_ ?_ ?_)))
  trivial
noncomputable def lawNumber (x : Str) : Int := if bareText x = Str.ofString "" then 0 else match tokNum (bareText x) with
  | some i => 201 + i
  | none => 159 + ((Txt.item (bareText x) 0).cps.getD 0 0 : Nat)
set_option maxHeartbeats 4000000 in
theorem c_number (w : World) (q : Program) (mean : ExcName → Option Value) (mg mb : Str → Option Value) (loose : List Str) (cbNews : List (Addr × Obj)) (x : Str) (tx : Tok) :
  Cl 2 rw_sn0078_01.row.prog w (K0 w.params) q loose mean mg mb 177 cbNews (x.length ≤ 1000) [.str x tx] (fun t => .int (lawNumber x) t) := by
  k_fill
  dsimp only [Cl, ClRet]; intros; rename_i hret
  refine wpAny_call ?_
  k_dflt cell_enter
  k_with "tree" => (unfold lawNumber; simp_all)
  k_steps
  all_goals first
    | exact ⟨_, _, rfl, by assumption⟩
    | exact mapsSign_mk _ _ _
    | k_extra "cb_end"
theorem rz_ConC : True := by k_with_none; trivial
theorem code_defCG {prog : Program} {w : World} {A A₀ : Around} {s : Shared} {K : Frag} {L : Addr} {h₀ base : Heap} {m mg mb : Str → Option Value} {news : List (Addr × Obj)} {p : Program} {loose : List Str} {mean : ExcName → Option Value}
    {env : Env} {outer : List Env} {R : Result → Shared → Prop} {name qual : Str} {params : Arguments} {body : List Stmt} {scope : Scope} {dV kV doc pm cdv ct oc : Value} {an od : Option Addr} {osl : Array (Option Value)} {f : Addr} {args : Args} {binds : List (Str × Value)}
    (B : Below A₀ base outer h₀) (F : Fr h₀ L s.heap m) (X₀ : K.In h₀) (N : News h₀ L s.heap news) (T : Top p loose mean mg mb h₀) (hA : A.frames = some (env :: outer)) (hf : env.frame = some L) (hke : env.scope.kind = .function)
    (ho : K.lookup f = some ⟨oc, od, .func (fnOf name qual params body scope dV kV doc pm an cdv ct), osl⟩) (hcd : codeIn K cdv qual = true) (hroom : A.depth < recursionLimit)
    (hbind : BindsTo s (fnOf name qual params body scope dV kV doc pm an cdv ct) args binds) (hkind : (binds.all fun y => scope.names.lookup y.1 == some .local || scope.names.lookup y.1 == some .cell) = true)
    (hnd : ((cellsFrom 0 scope.names []).map (·.1)).Nodup)
    (h : ∀ g L' h₁ tk cells, Fr h₀ L g m → Fr g L' h₁ (bindL (envOfC qual scope L' f cdv).kindOf binds fun _ => none) → News g L' h₁ (cells ++ news) →
      CellsAre (bindC (envOfC qual scope L' f cdv).kindOf binds fun _ => none) (cellsFrom (L' + 1) scope.names []) cells → Below A base (env :: outer) g → K.In g → Top p loose mean mg mb g → (∀ p ∈ news, p.1 < L') → GSub s.heap g (news.map (·.1)) →
      wpAny (model prog w) (A.deeper (envOfC qual scope L' f cdv)) (execs body (envOfC qual scope L' f cdv))
        (fun fl s' => LeaveK h₀ L m g R (match fl with | .ret v => v | _ => .none) s')
        (fun e s' => wpAny (model prog w) (A.deeper (envOfC qual scope L' f cdv)) (leaving (envOfC qual scope L' f cdv) e) (fun _ s'' => R (.error e) s'') (fun e' s'' => R (.error e') s'') s')
        { s with heap := h₁, toks := tk })
    (hco : scope.isCoroutine = false) (hgen : scope.isGenerator = false) (hk : scope.kind = .function) : codeAny (model prog w) A (.call (.ref f) args) R s := by
  obtain ⟨FG, BG, st, lv⟩ := groundX (R := R) B F N hA hf hke
  refine codeAny_call_function hroom ((X₀.keeps F.keep) _ _ ho) rfl hco hgen rfl (codeRec_of (X₀.keeps F.keep) hcd) (hbind _ _ _ _ ?_)
  refine wpAny_newFunctionEnv_cells hk (kindsX hkind _) fun env' he s' x => ?_
  subst he
  refine ⟨(T.nolimit.keeps F.keep).keeps x.toInCall.keep, codeAny_func ?_⟩
  obtain ⟨h₁, tk, rfl, _⟩ := x.done
  have hk₁ := x.toInCall.keep
  obtain ⟨cells, NC, Y⟩ := Cl.news (h₀ := s.heap) (Nat.le_refl _) fun n c hm => ⟨x.cell n c (lookup_of_mem_nodup (cellsFrom_names scope.names 0 (s.heap.objs.size + 1) [] [] rfl ▸ hnd) hm), x.above n c hm⟩
  refine wpAny_mono (h _ s.heap.objs.size h₁ tk cells FG ⟨x.toInCall.ns, fun b o e => hk₁ b o (of_hideAll _ e), Nat.le_of_eq (hideAll_size _ _)⟩ (fun p hp => ?_) Y BG (X₀.keeps st) (T.keeps st) (fun p hp => Heap.lt_size (N p hp).1) (fun b o e n => hideAll_get _ e n)) (fun fl s' hl => lv _ _ hl) fun _ _ y => y
  rcases List.mem_append.mp hp with hp | hp
  · refine ⟨(NC p hp).1, (NC p hp).2.1, ?_⟩
    cases q : (hideAll s.heap (news.map (·.1))).get? p.1 with
    | none => rfl
    | some o => have := of_hideAll _ q; rw [(NC p hp).2.2] at this; cases this
  · exact ⟨hk₁ _ _ (N p hp).1, Nat.ne_of_lt (Heap.lt_size (N p hp).1), hideAll_none _ (List.mem_map_of_mem hp)⟩
structure TailOff (c : Addr) (l : List (Addr × Obj)) : Prop where
  ne : ∀ p ∈ l, p.1 ≠ c
structure TailLt (L : Nat) (l : List (Addr × Obj)) : Prop where
  lt : AllLt L l
theorem sub_self {α : Type} (l : List α) : ∀ p ∈ l, p ∈ l := fun _ h => h
theorem sub_cons {α : Type} {a : α} {l l' : List α} (h : ∀ p ∈ l, p ∈ l') : ∀ p ∈ a :: l, p ∈ a :: l' := fun p hp => (List.mem_cons.mp hp).elim (fun e => e ▸ .head _) fun hp => .tail _ (h p hp)
theorem sub_skip {α : Type} {a : α} {l l' : List α} (h : ∀ p ∈ l, p ∈ l') : ∀ p ∈ l, p ∈ a :: l' := fun p hp => .tail _ (h p hp)
theorem sub_or {α : Type} {P : α → Prop} {l l' : List α} (h : ∀ p ∈ l, p ∈ l') : ∀ p ∈ l, P p ∨ p ∈ l' := fun p hp => .inr (h p hp)
theorem fm_cons {α : Type} {p : α → Prop} {a : α} {l : List α} (h1 : p a) (h2 : ∀ x ∈ l, p x) : ∀ x ∈ a :: l, p x := List.forall_mem_cons.mpr ⟨h1, h2⟩
theorem allLt_ne {d : Addr} : ∀ {l : List (Addr × Obj)}, AllLt d l → ∀ p ∈ l, p.1 ≠ d
  | [], _ => fun p hp => by cases hp
  | a :: r, h => List.forall_mem_cons.mpr ⟨Nat.ne_of_lt h.1, allLt_ne h.2⟩
theorem off8 {L : Nat} {o1 o2 o3 o4 o5 o6 o7 o8 : Obj} {tail : List (Addr × Obj)} (h : 167 < L) (hof : TailOff 167 tail) : ∀ p ∈ (((L + 1 + 1 + 1 + 1 + 1 + 1 + 1 + 1 : Nat), o8) : Addr × Obj) :: ((L + 1 + 1 + 1 + 1 + 1 + 1 + 1 : Nat), o7) :: ((L + 1 + 1 + 1 + 1 + 1 + 1 : Nat), o6) :: ((L + 1 + 1 + 1 + 1 + 1 : Nat), o5) :: ((L + 1 + 1 + 1 + 1 : Nat), o4) :: ((L + 1 + 1 + 1 : Nat), o3) :: ((L + 1 + 1 : Nat), o2) :: ((L + 1 : Nat), o1) :: tail, p.1 ≠ 167 :=
  have q : ∀ k : Nat, L + k ≠ 167 := fun k => Nat.ne_of_gt (Nat.lt_of_lt_of_le h (Nat.le_add_right L k))
  fm_cons (q 8) (fm_cons (q 7) (fm_cons (q 6) (fm_cons (q 5) (fm_cons (q 4) (fm_cons (q 3) (fm_cons (q 2) (fm_cons (q 1) hof.ne)))))))
theorem TailLt.ne {L c : Nat} {l : List (Addr × Obj)} (h : TailLt L l) (hc : L ≤ c) : ∀ p ∈ l, p.1 ≠ (c : Addr) := by
  obtain ⟨h⟩ := h
  induction l with
  | nil => intro p hp; cases hp
  | cons q r ih =>
    intro p hp
    rcases List.mem_cons.mp hp with rfl | hp
    · exact Nat.ne_of_lt (Nat.lt_of_lt_of_le h.1 hc)
    · exact ih h.2 p hp
theorem TailLt.up {L c : Nat} {l : List (Addr × Obj)} (h : TailLt L l) (hc : L ≤ c) : AllLt c l := by
  obtain ⟨h⟩ := h
  induction l with
  | nil => trivial
  | cons q r ih => exact ⟨Nat.lt_of_lt_of_le h.1 hc, ih h.2⟩
section
variable {prog : Program} {w : World} {A : Around} {E : Value → Shared → Prop} {s : Shared} {h₀ : Heap} {L : Addr} {m : Str → Option Value} {news : List (Addr × Obj)} {Q : Value → Shared → Prop}
theorem listStrN {x : Str} {t : Tok} (hh : A.handled = none) (F : Fr h₀ L s.heap m) (N : News h₀ L s.heap news)
    (h : ∀ D h' tk (zs : List Value) c, Fr h₀ L h' m → News h₀ L h' ((D, listOf zs.toArray c) :: news) → (∀ q ∈ news, q.1 < D) → Ext s.heap h' → StrsAre zs (x.cps.toList.map fun c => ⟨#[c]⟩) → Q (.ref D) { s with heap := h', toks := tk }) (hsz : x.length ≤ sizeLine) :
    wpAny (model prog w) A (call (.type "list") [.str x t]) Q E s := by
  refine call_list_str hh x t (hn := hsz) fun h' tk acc' c' hk hS' hacc => ?_
  have hD0 : h₀.get? s.heap.objs.size = none := by
    cases e : h₀.get? s.heap.objs.size with
    | none => rfl
    | some o => exact absurd (Heap.lt_size (F.keep _ _ e)) (Nat.lt_irrefl _)
  obtain ⟨oL, _, _, hL, _⟩ := F.ns
  have hDL : s.heap.objs.size ≠ L := fun e => absurd (Heap.lt_size hL) (by rw [← e]; exact Nat.lt_irrefl _)
  refine h _ h' tk acc'.toList c' (F.keeps hk) (fun q hq => ?_) (fun q hq => Heap.lt_size (N q hq).1) hk ?_
  · rcases List.mem_cons.mp hq with rfl | hq
    · exact ⟨by rw [Array.toArray_toList]; exact hS', hDL, hD0⟩
    · exact (N.grown hk) q hq
  · exact strs_of_signs _ _ (by simp [hacc.1]) fun j v hj => by
      obtain ⟨c, u, e, r⟩ := hacc.2 j v (by simpa using hj)
      exact ⟨c, u, by rw [Array.getElem?_toList]; exact e, r⟩
end
theorem strs_len : ∀ {zs : List Value} {l : List Str}, StrsAre zs l → zs.length = l.length
  | [], [], .nil => rfl
  | _ :: _, _ :: _, .cons _ _ h => congrArg (· + 1) (strs_len h)
theorem strs_room {zs : List Value} {x : Str} (S : StrsAre zs (x.cps.toList.map fun c => ⟨#[c]⟩)) (h : x.length ≤ 1000) : zs.toArray.toList.length ≤ sizeLine := by
  rw [List.toList_toArray, strs_len S, List.length_map, Array.length_toList, sizeLine_eq]
  have : x.cps.size ≤ 1000 := h
  omega
theorem strs_rev {zs : List Value} {l : List Str} (S : StrsAre zs l) : StrsAre zs.reverse l.reverse := by
  induction S with
  | nil => exact .nil
  | cons s t h ih =>
    rw [List.reverse_cons, List.reverse_cons]
    revert ih
    generalize List.reverse _ = a
    generalize List.reverse _ = b
    intro ih
    induction ih with
    | nil => exact .cons _ _ .nil
    | cons _ _ _ ih => exact .cons _ _ ih
theorem code171 {P : Params} {h : Heap} (X : (K0 P).In h) : CodeHd h 171 167 :=
  ⟨o171, _, _, _, _, _, _, _, _, X 171 _ rfl, rfl, rfl, rfl, rfl, rfl, rfl, rfl, rfl, by decide⟩
noncomputable def lamAt : Option (Arguments × PySem.Expr × Scope × Pos) := match pw_sn0078_01.main.body[(66 : Nat)]? with
  | some (.FunctionDef _ _ b _ _ _ _ _ _ _) => (match b[(3 : Nat)]? with
    | some (.Assign _ (.Lambda a e sc p) _) => some (a, e, sc, p)
    | _ => none)
  | _ => none
noncomputable abbrev lamO {a : Arguments} {e : PySem.Expr} {sc : Scope} {p : Pos} (_ : lamAt = some (a, e, sc, p)) (cL cc : Addr) (pm ctv : Value) : Obj :=
  kla_obj (Str.ofString "<lambda>") (Str.ofString "_law_reader.<locals>.<lambda>") a e sc [(Str.ofString "left", cL)] pm cc ctv
noncomputable abbrev lamObj (cL cc : Addr) (pm ctv : Value) : Obj := lamO (by rfl) cL cc pm ctv
structure Rd where
  (xr dr pr xs ds ps f cc l cL : Addr)
  (k1 k2 k3 k4 tw j0 j1 j2 j3 j4 j5 tv tq : Tok)
  (oC oc : Obj)
  (vs : Array Value)
  (pm ctv : Value)
noncomputable def ws4 : Str := Str.ofString "\n\t\r "
noncomputable abbrev Rd.lex (P : Params) (r : Rd) (ln : Int) (tl : Tok) : Obj := dictOf
  [⟨PyData.keyHash P (Str.ofString "lineno"), .str (Str.ofString "lineno") r.k1, .int ln tl⟩, ⟨PyData.keyHash P (Str.ofString "instream"), .str (Str.ofString "instream") r.k2, .ref r.xs⟩,
   ⟨PyData.keyHash P (Str.ofString "whitespace"), .str (Str.ofString "whitespace") r.k3, .str (Str.ofString "\n\t\r ") r.tw⟩, ⟨PyData.keyHash P (Str.ofString "pushback"), .str (Str.ofString "pushback") r.k4, .ref r.pr⟩] 4
noncomputable abbrev Rd.str (P : Params) (r : Rd) : Obj := dictOf
  [⟨PyData.keyHash P (Str.ofString "lineno"), .str (Str.ofString "lineno") r.j1, .int 1 r.j0⟩, ⟨PyData.keyHash P (Str.ofString "instream"), .str (Str.ofString "instream") r.j2, .none⟩,
   ⟨PyData.keyHash P (Str.ofString "whitespace"), .str (Str.ofString "whitespace") r.j3, .str (Str.ofString "\n\t\r ") r.tv⟩, ⟨PyData.keyHash P (Str.ofString "pushback"), .str (Str.ofString "pushback") r.j4, .ref r.ps⟩,
   ⟨PyData.keyHash P (Str.ofString "read"), .str (Str.ofString "read") r.j5, .ref r.f⟩] 5
noncomputable abbrev Rd.news (P : Params) (r : Rd) (ln : Int) (tl : Tok) (pv : List Value) (np : Nat) (zs : List Value) (nz : Nat) (tail : List (Addr × Obj)) : List (Addr × Obj) :=
  (r.pr, listOf pv.toArray np) :: (r.xr, instObj 73 r.dr) :: (r.dr, r.lex P ln tl) :: (r.f, lamObj r.cL r.cc r.pm r.ctv) :: (r.cc, r.oc) :: (r.ps, listOf #[] 0) :: (r.xs, instObj 73 r.ds) :: (r.ds, r.str P) :: (r.l, listOf zs.toArray nz) :: (r.cL, r.oC) :: tail
structure Rd.Ok (r : Rd) : Prop where
  cell : r.oC.data = .cell (some (.ref r.l))
  code : r.oc.data = .fields r.vs
  qual : r.vs[1]? = some (.str (Str.ofString "_law_reader.<locals>.<lambda>") r.tq)
  o1 : @LT.lt Nat _ r.cL r.l
  o2 : @LT.lt Nat _ r.l r.ds
  o3 : @LT.lt Nat _ r.ds r.xs
  o4 : @LT.lt Nat _ r.xs r.ps
  o5 : @LT.lt Nat _ r.ps r.f
  o6 : @LT.lt Nat _ r.f r.dr
  o7 : @LT.lt Nat _ r.dr r.xr
  o8 : @LT.lt Nat _ r.xr r.pr
structure Under (c : Nat) (l : List (Addr × Obj)) : Prop where
  lt : AllLt c l
noncomputable abbrev ExtBut (mu : List Addr) (h h' : Heap) : Prop := ∀ b o, b ∉ mu → h.get? b = some o → h'.get? b = some o
noncomputable abbrev ClM (k : Nat) (prog : Program) (w : World) (K : Frag) (p : Program) (loose : List Str) (mean : ExcName → Option Value) (mg mb : Str → Option Value) (f : Addr) (news : List (Addr × Obj)) (mu : List Addr) (pre : Prop) (vs : List Value) (post : Value → List (Addr × Obj) → Prop) : Prop :=
  ∀ (dp un : Nat) (gd : Option (List Code)) (cn : Str) (cs : Scope) (a : Addr) (ccd : Value) (cl : List (Str × Addr)) (outer : List Env) (A₀ : Around) (base h₀ : Heap) (L : Addr) (m : Str → Option Value) (s : Shared) (Q E : Value → Shared → Prop),
    Below A₀ base outer h₀ → Fr h₀ L s.heap m → K.In h₀ → News h₀ L s.heap news → Top p loose mean mg mb h₀ → cs.kind = .function →
    pre → dp + k < recursionLimit → un + 64 * k < cLine →
    (∀ v news' h' tk', post v news' → Fr h₀ L h' m → News h₀ L h' news' → ExtBut mu s.heap h' → Q v { s with heap := h', toks := tk' }) →
      codeAny (model prog w) (ktrTop dp un gd cn cs L a ccd cl outer) (.call (.ref f) ⟨vs, []⟩) (fun r s' => match r with | .ok (.ret v) => Q v s' | .ok _ => False | .error e => E e s') s
theorem clm_ext {H g H' h₀ : Heap} {L L' : Addr} {m' : Str → Option Value} {news news' : List (Addr × Obj)} {mu : List Addr} (G : GSub H g (news.map (·.1))) (N : News h₀ L H news) (F' : Fr g L' H' m') (N' : News g L' H' news') (hs : ∀ p ∈ news, p.1 ∈ mu ∨ p ∈ news') : ExtBut mu H H' := fun b o hb e => by
  by_cases hn : b ∈ news.map (·.1)
  · obtain ⟨p, hp, rfl⟩ := List.mem_map.mp hn
    have h1 := (N p hp).1
    rw [e] at h1
    cases h1
    rcases hs p hp with q | q
    · exact absurd q hb
    · exact (N' p q).1
  · exact F'.keep b o (G b o e hn)
section
variable {prog : Program} {w : World} {A : Around} {E : Value → Shared → Prop} {s : Shared} {h₀ : Heap} {L D : Addr} {m : Str → Option Value} {news : List (Addr × Obj)} {n : Nat}
theorem truthyNil {Q : Bool → Shared → Prop} (N : News h₀ L s.heap news) (hm : (D, listOf #[] n) ∈ news) (h : Q false { s with toks := s.toks + 1 + 1 }) : wpAny (model prog w) A (truthy (.ref D)) Q E s :=
  wpAny_truthy_list ⟨_, (N _ hm).1, rfl, n, rfl⟩ (by decide) h
theorem truthySnoc {l : List Value} {v : Value} {Q : Bool → Shared → Prop} (N : News h₀ L s.heap news) (hm : (D, listOf (l ++ [v]).toArray n) ∈ news) (hz : l.length ≤ 1000) (h : Q true { s with toks := s.toks + 1 + 1 }) : wpAny (model prog w) A (truthy (.ref D)) Q E s := by
  refine wpAny_truthy_list ⟨_, (N _ hm).1, rfl, n, rfl⟩ (by simp; omega) ?_
  have e : (!(l ++ [v]).toArray.isEmpty) = true := by simp
  rw [e]; exact h
theorem truthyCons {l : List Value} {v : Value} {Q : Bool → Shared → Prop} (N : News h₀ L s.heap news) (hm : (D, listOf (v :: l).toArray n) ∈ news) (hz : l.length ≤ 1000) (h : Q true { s with toks := s.toks + 1 + 1 }) : wpAny (model prog w) A (truthy (.ref D)) Q E s := by
  refine wpAny_truthy_list ⟨_, (N _ hm).1, rfl, n, rfl⟩ (by simp; omega) ?_
  simpa using h
end
theorem kl_last_snoc (l : List Value) (v : Value) : kl_last (l ++ [v]) = some (l, v) := by
  induction l with
  | nil => rfl
  | cons a r ih => rw [List.cons_append, kl_last, ih]
theorem snoc_room {l : List Value} {v : Value} (h : l.length ≤ 1000) : (l ++ [v]).toArray.toList.length ≤ sizeLine := by
  rw [List.toList_toArray, List.length_append, sizeLine_eq]; simp; omega
noncomputable abbrev neN' (a b : Addr) : Prop := @Ne Nat a b
theorem cons_idx (v : Value) (l : List Value) : seqIndex? 0 (v :: l).toArray.size = some 0 := by
  simp [seqIndex?]
theorem cons_room {l : List Value} {v : Value} (h : l.length ≤ 1000) : (v :: l).toArray.toList.length ≤ sizeLine := by
  rw [List.toList_toArray, List.length_cons, sizeLine_eq]; omega
theorem wpAny_callBorrowed {M : Model} {A : Around} {f : Value} {pos : List Value} {Q E : Value → Shared → Prop} {s : Shared}
    (h : codeAny M A (.call f ⟨pos, []⟩) (fun r s' => match r with | .ok (.ret v) => Q v s' | .ok _ => False | .error e => E e s') s) : wpAny M A (callBorrowed f pos) Q E s := fun Γ p hΓ => by
  have h' := wpAny_call h Γ p hΓ
  have e1 : call f pos [] = (run (.call f ⟨pos, []⟩) >>= fun r => match r with | .ret v => pure v | _ => unsupported "internal:call-without-return-value") := rfl
  rw [e1, Sem.wp_bind'] at h'
  unfold run at h'
  rw [Sem.wp_call] at h'
  unfold callBorrowed
  rw [Sem.wp_call]
  refine wpCode_mono (fun r s' hr => ?_) h'
  cases r with
  | error e => rw [Sem.wp_raise] at hr ⊢; exact hr
  | ok f =>
    rw [Sem.wp_pure] at hr
    cases f with
    | ret v => rw [Sem.wp_pure'] at hr; rw [Sem.wp_pure]; exact hr
    | _ => exact hr
theorem news_put4 {h₀ h : Heap} {L : Addr} {a b c d p : Addr × Obj} {R : List (Addr × Obj)} (N : News h₀ L h (a :: b :: c :: d :: R)) (hp : p ∈ R) : News h₀ L h (a :: b :: c :: d :: p :: R) := by
  intro x hx
  refine N x ?_
  simp only [List.mem_cons] at hx ⊢
  rcases hx with h | h | h | h | h | h
  · exact .inl h
  · exact .inr (.inl h)
  · exact .inr (.inr (.inl h))
  · exact .inr (.inr (.inr (.inl h)))
  · subst h; exact .inr (.inr (.inr (.inr hp)))
  · exact .inr (.inr (.inr (.inr h)))
local macro_rules | `(tactic| omega) => `(tactic| k_extra "omega")
local macro_rules | `(tactic| k_all) => `(tactic| k_extra "my_k_all")
local macro_rules | `(tactic| k_ne) => `(tactic| k_extra "my_k_ne")
local macro_rules | `(tactic| k_enter) => `(tactic| k_extra "my_k_enter")
theorem rg_ConM4_1 : True := by
  k_with_none
  (k_with "eval Constant int" => (refine constI ?_))
  (k_with "eval Constant str" => (refine constS ?_))
  (k_with "eval Call" => ((show let Q9 := _; wpAny _ _ _ Q9 _ _); intro Q9; refine Call_ ?_))
  (k_with "eval Call Attribute" => ((show let Q9 := _; wpAny _ _ _ Q9 _ _); intro Q9; refine MethodCall_ ?_))
  (k_with "exec If" => ((show let Q9 := _; wpAny _ _ _ Q9 _ _); intro Q9; refine wpAny_If ?_))
  (k_with "exec Assign" => ((show let Q9 := _; wpAny _ _ _ Q9 _ _); intro Q9; refine wpAny_Assign_Name ?_))
  (k_with "exec AugAssign" => ((show let Q9 := _; wpAny _ _ _ Q9 _ _); intro Q9; refine wpAny_AugAssign_Name ?_))
  (k_with "eval BinOp" => ((show let Q9 := _; wpAny _ _ _ Q9 _ _); intro Q9; refine wpAny_BinOp ?_))
  (k_with "eval Compare" => ((show let Q9 := _; wpAny _ _ _ Q9 _ _); intro Q9; refine wpAny_Compare1 ?_))
  (k_with "isTrue Compare" => ((show let Q9 := _; wpAny _ _ _ Q9 _ _); intro Q9; refine wpAny_isTrue_Compare1 ?_))
  (k_with "eval Subscript" => ((show let Q9 := _; wpAny _ _ _ Q9 _ _); intro Q9; refine Subscript_ ?_))
  (k_with "my_k_all" => (refine' TailLt.ne (h := by assumption) (hc := by first | exact Nat.le_refl _ | omega)))
  (k_with "my_k_all" => (exact TailOff.ne (by assumption)))
  (k_with "my_k_all" => (exact allLt_ne (by assumption)))
  (k_with "a" => (with_reducible assumption))
  (k_with "cn" => (first | k_extra "a" | (apply And.right; first | k_extra "a" | (apply And.right; first | k_extra "a" | (apply And.right; first | k_extra "a" | (apply And.right; first | k_extra "a" | (apply And.right; first | k_extra "a" | (apply And.right; first | k_extra "a" | (apply And.right; first | k_extra "a" | (apply And.right; first | k_extra "a" | (apply And.right; first | k_extra "a" | (apply And.right; first | k_extra "a" | (apply And.right; first | k_extra "a" | (apply And.right; first | k_extra "a" | (apply And.right; k_extra "a")))))))))))))))
  (k_with "cj" => (first | k_extra "cn" | (apply And.left; k_extra "cn")))
  (k_with "lt" => ((first | (with_reducible show @LT.lt Nat _ _ _) | (with_reducible show @LE.le Nat _ _ _)); first | k_extra "cj" | (with_reducible refine Nat.lt_of_succ_lt ?_; k_extra "cj") | (with_reducible refine Nat.le_of_lt ?_; first | k_extra "cj" | (refine Nat.lt_of_succ_lt ?_; k_extra "cj")) | (with_reducible refine Nat.lt_trans ?_ (by with_reducible assumption); k_extra "lt")))
  (k_with "lt0" => (first | with_reducible exact Nat.lt_succ_self _ | with_reducible assumption | (with_reducible refine Nat.lt_succ_of_lt ?_; k_extra "lt0")))
  (k_with "my_k_ne" => (refine neN ?_; (try dsimp only); first | (refine Nat.ne_of_lt ?_; k_extra "lt0") | (refine Nat.ne_of_gt ?_; k_extra "lt0") | (refine Nat.ne_of_lt ?_; k_extra "lt") | (refine Nat.ne_of_gt ?_; k_extra "lt")))
  (k_with "omega" => (first | k_extra "lt"))
  (k_with "my_k_enter" => (refine' code_def (B := by k_asm) (F := by k_asm) (by k_asm) (N := by k_asm) (T := by k_asm) (hA := by exact rfl) (hf := by exact rfl) (hke := by first | exact rfl | assumption) (ho := by k_is) (hcd := by k_is) (hroom := by first | ktr_room | k_room) (hbind := by first | exact BindsTo.of_eq rfl | exact binds_K (by k_in) rfl (by k_is) rfl rfl rfl | fail "k_enter: no rule for these arguments") (hloc := by exact locs rfl) ?_ (hco := by exact rfl) (hgen := by exact rfl) (hk := by exact rfl) (hcell := by decide); k_whole; intro g' L' h' FG' F' N' B' X' T'; (try dsimp only); (try k_lift B'); (try k_fold)))
  trivial
theorem g_lex {w : World} {q : Program} {mean : ExcName → Option Value} {mg mb : Str → Option Value} {loose : List Str} {tail : List (Addr × Obj)} {dp un : Nat} {gd : Option (List Code)} {cn : Str} {cs : Scope} {a : Addr} {ccd : Value} {cl : List (Str × Addr)} {outer : List Env} {A₀ : Around} {base h₀ : Heap} {L : Addr} {m : Str → Option Value} {s : Shared} {Q E : Value → Shared → Prop} {v : Value}
    (F : Fr h₀ L s.heap m) (N : News h₀ L s.heap tail) (B : Below A₀ base outer h₀) (X : (K0 w.params).In h₀) (T : Top q loose mean mg mb h₀) (hk : cs.kind = .function) (hd : dp + 1 < recursionLimit) (hu : un + 64 * 1 < cLine)
    (h : ∀ ds xs ps k1 t1 k2 k3 tw k4 h' tk', Fr h₀ L h' m → News h₀ L h' ((ps, listOf #[] 0) :: (xs, instObj 73 ds) :: (ds, dictOf [⟨PyData.keyHash w.params (Str.ofString "lineno"), .str (Str.ofString "lineno") k1, .int 1 t1⟩, ⟨PyData.keyHash w.params (Str.ofString "instream"), .str (Str.ofString "instream") k2, v⟩,  ⟨PyData.keyHash w.params (Str.ofString "whitespace"), .str (Str.ofString "whitespace") k3, .str (Str.ofString "\n\t\r ") tw⟩, ⟨PyData.keyHash w.params (Str.ofString "pushback"), .str (Str.ofString "pushback") k4, .ref ps⟩] 4) :: tail) → (∀ p ∈ tail, p.1 < ds) → @LT.lt Nat _ ds xs → @LT.lt Nat _ xs ps → Q (.ref xs) { s with heap := h', toks := tk' }) :
    wpAny (model rw_sn0078_01.row.prog w) (ktrTop dp un gd cn cs L a ccd cl outer) (call (.ref 73) [v]) Q E s := by
  revert X; k_fill; intro X
  k_steps
  exact h _ _ _ _ _ _ _ _ _ _ _ (by assumption) (by assumption) (by assumption) (by k_extra "cj") (by k_extra "cj")
theorem rg_Con4_1 : True := by
  k_with_none
  (k_with "my_cell_enter" => (refine' code_defCG (B := by k_asm) (F := by k_asm) (by k_asm) (N := by k_asm) (T := by k_asm) (hA := by exact rfl) (hf := by exact rfl) (hke := by assumption) (ho := by k_is) (hcd := by k_is) (hroom := by ktr_room) (hbind := by exact BindsTo.of_eq rfl) (hkind := by exact rfl) (hnd := by decide +kernel) ?_ (hco := by exact rfl) (hgen := by exact rfl) (hk := by exact rfl); k_whole; walk_at "ice2d52"))
  (k_with "eval Constant int" => (refine constI ?_))
  (k_with "eval Constant str" => (refine constS ?_))
  (k_with "eval Call" => ((show let Q9 := _; wpAny _ _ _ Q9 _ _); intro Q9; refine Call_ ?_))
  (k_with "eval Call Attribute" => ((show let Q9 := _; wpAny _ _ _ Q9 _ _); intro Q9; refine MethodCall_ ?_))
  (k_with "exec If" => ((show let Q9 := _; wpAny _ _ _ Q9 _ _); intro Q9; refine wpAny_If ?_))
  (k_with "exec Assign" => ((show let Q9 := _; wpAny _ _ _ Q9 _ _); intro Q9; refine wpAny_Assign_Name ?_))
  (k_with "exec AugAssign" => ((show let Q9 := _; wpAny _ _ _ Q9 _ _); intro Q9; refine wpAny_AugAssign_Name ?_))
  (k_with "eval BinOp" => ((show let Q9 := _; wpAny _ _ _ Q9 _ _); intro Q9; refine wpAny_BinOp ?_))
  (k_with "eval Compare" => ((show let Q9 := _; wpAny _ _ _ Q9 _ _); intro Q9; refine wpAny_Compare1 ?_))
  (k_with "isTrue Compare" => ((show let Q9 := _; wpAny _ _ _ Q9 _ _); intro Q9; refine wpAny_isTrue_Compare1 ?_))
  (k_with "eval Subscript" => ((show let Q9 := _; wpAny _ _ _ Q9 _ _); intro Q9; refine Subscript_ ?_))
  (k_with "my_k_all" => (refine' TailLt.ne (h := by assumption) (hc := by first | exact Nat.le_refl _ | omega)))
  (k_with "my_k_all" => (exact TailOff.ne (by assumption)))
  (k_with "my_k_all" => (exact allLt_ne (by assumption)))
  (k_with "a" => (with_reducible assumption))
  (k_with "cn" => (first | k_extra "a" | (apply And.right; first | k_extra "a" | (apply And.right; first | k_extra "a" | (apply And.right; first | k_extra "a" | (apply And.right; first | k_extra "a" | (apply And.right; first | k_extra "a" | (apply And.right; first | k_extra "a" | (apply And.right; first | k_extra "a" | (apply And.right; first | k_extra "a" | (apply And.right; first | k_extra "a" | (apply And.right; first | k_extra "a" | (apply And.right; first | k_extra "a" | (apply And.right; first | k_extra "a" | (apply And.right; k_extra "a")))))))))))))))
  (k_with "cj" => (first | k_extra "cn" | (apply And.left; k_extra "cn")))
  (k_with "lt" => ((first | (with_reducible show @LT.lt Nat _ _ _) | (with_reducible show @LE.le Nat _ _ _)); first | k_extra "cj" | (with_reducible refine Nat.lt_of_succ_lt ?_; k_extra "cj") | (with_reducible refine Nat.le_of_lt ?_; first | k_extra "cj" | (refine Nat.lt_of_succ_lt ?_; k_extra "cj")) | (with_reducible refine Nat.lt_trans ?_ (by with_reducible assumption); k_extra "lt")))
  (k_with "lt0" => (first | with_reducible exact Nat.lt_succ_self _ | with_reducible assumption | (with_reducible refine Nat.lt_succ_of_lt ?_; k_extra "lt0")))
  (k_with "my_k_ne" => (refine neN ?_; (try dsimp only); first | (refine Nat.ne_of_lt ?_; k_extra "lt0") | (refine Nat.ne_of_gt ?_; k_extra "lt0") | (refine Nat.ne_of_lt ?_; k_extra "lt") | (refine Nat.ne_of_gt ?_; k_extra "lt")))
  (k_with "call type:list" => (k_here; (with_reducible show wpAny _ _ (call (Value.type "list") [Value.str _ _]) _ _ _); k_dflt (refine' listStrN (hh := by exact rfl) (F := by k_asm) (N := by k_asm) ?_ (hsz := by (rw [sizeLine_eq]; omega))); walk_at "i7ea1da"))
  (k_with "call builtin:list.reverse" => (k_here; (with_reducible show wpAny _ _ (call (Value.builtin _) _) _ _ _); k_dflt (refine' kl_reverse (F := by k_asm) (N := by k_asm) (e := by exact rfl) (U := by k_upd) (hz := by exact strs_room (by assumption) (by assumption)) ?_); kl_rest))
  (k_with "call ref" => (k_here; k_dflt ((with_reducible show wpAny _ _ (call (Value.ref 73) [_]) _ _ _); refine' g_lex (F := by k_asm) (N := by k_asm) (B := by k_asm) (X := by k_asm) (T := by k_asm) (hk := by first | exact rfl | assumption) (hd := by first | assumption | ktr_room) (hu := by first | assumption | ktr_units | ktr_room) ?_); intro ds9 xs9 ps9 k19 t19 k29 k39 tw9 k49 h9 tk9 F9 N9 l9 l8 l7; (try k_lt l9)))
  (k_with "eval Lambda" => (k_here; k_dflt (refine' kla_eval (hdef := by exact rfl) ?_); (first | (k_dflt (refine' kla_nest (F := by k_asm) (N := by k_asm) (T := by k_asm) (C := by exact code171 (by k_asm)) (hcd := by exact rfl) (U := by k_updF) (ht := by exact trivial) (hnf := by exact rfl) (hcl := by exact rfl) ?_; k_whole); walk_at "id82b68") | (k_dflt (refine' kla_hit (F := by k_asm) (N := by k_asm) (T := by k_asm) (C := by exact code171 (by k_asm)) (hcd := by exact rfl) (hmem := by k_mem) (ht := by kn_triples) (hf := by kn_hit) (hcl := by exact rfl) ?_; k_whole); walk_at "i2bffbd"))))
  (k_with "omega" => (first | k_extra "lt"))
  (k_with "ice2d52" => (intro g' L' h' tk' cells' FG'; (show let m0 := _; Fr _ _ _ m0 → _); intro m0 F'; intro N' Y' B' X' T' l1 GS'; (try k_lt l1); (try (first | have tl' := TailLt.mk l1 | have tl' := TailLt.mk l1.2 | have tl' := TailLt.mk l1.2.2 | have tl' := TailLt.mk l1.2.2.2 | have tl' := TailLt.mk l1.2.2.2.2 | have tl' := TailLt.mk l1.2.2.2.2.2)); k_cells Y'; (try simp only [List.cons_append, List.nil_append] at N'); (try dsimp only); (try k_lift B'); (try k_fold); (show let Q' := _; let E' := _; wpAny _ _ _ Q' E' _); intro Q' E'))
  (k_with "i7ea1da" => (intro D' h' tk' zs' c' F' N' l1 X' S'; (try k_lt l1)))
  (k_with "my_k_enter" => (refine' code_def (B := by k_asm) (F := by k_asm) (by k_asm) (N := by k_asm) (T := by k_asm) (hA := by exact rfl) (hf := by exact rfl) (hke := by first | exact rfl | assumption) (ho := by k_is) (hcd := by k_is) (hroom := by first | ktr_room | k_room) (hbind := by first | exact BindsTo.of_eq rfl | exact binds_K (by k_in) rfl (by k_is) rfl rfl rfl | fail "k_enter: no rule for these arguments") (hloc := by exact locs rfl) ?_ (hco := by exact rfl) (hgen := by exact rfl) (hk := by exact rfl) (hcell := by decide); k_whole; intro g' L' h' FG' F' N' B' X' T'; (try dsimp only); (try k_lift B'); (try k_fold)))
  (k_with "id82b68" => (intro f' c' oc' vs' t' ct' h' tk' F' N' d1' d2' l1 l2; (try dsimp only at N'); (try k_lt l1); (try k_lt2 l2)))
  (k_with "i2bffbd" => (intro f' ct' h' tk' F' N' l1; (try dsimp only at N'); (try k_lt l1)))
  trivial
inductive ReadA (w : World) (tail : List (Addr × Obj)) (x : Str) (v : Value) (news' : List (Addr × Obj)) : Prop
  | mk (r : Rd) (tl : Tok) (zs : List Value) (n : Nat) : (r.Ok) → (v = .ref r.xr) → (news' = r.news w.params 1 tl [] 0 zs.reverse n ((167, tabObj #[rawInt 187, rawInt 18, .ref r.cc]) :: tail)) → (StrsAre zs (x.cps.toList.map fun c => ⟨#[c]⟩)) → (AllLt r.cL ((167, tabObj #[]) :: tail)) → (@LT.lt Nat _ r.ps r.cc) → (@LT.lt Nat _ r.cc r.f) → ReadA w tail x v news'
set_option maxHeartbeats 4000000 in
theorem c_readerA (w : World) (q : Program) (mean : ExcName → Option Value) (mg mb : Str → Option Value) (loose : List Str) (tail : List (Addr × Obj)) (x : Str) (tx : Tok) :
  ClM 2 rw_sn0078_01.row.prog w (K0 w.params) q loose mean mg mb 172 ((167, tabObj #[]) :: tail) [167] (x.length ≤ 1000 ∧ TailOff 167 tail) [.str x tx]
    (ReadA w tail x) := by
  k_fill
  dsimp only [ClM]; intros; rename_i hpre _ _ hret; obtain ⟨hx, hoff⟩ := hpre
  k_dflt cell_enter
  k_steps
  refine' hret _ _ _ _ ?post (by k_asm) (by assumption) ?ext
  case ext => exact clm_ext (by assumption) (by assumption) (by assumption) (by assumption) (List.forall_mem_cons.mpr ⟨.inl (.head _), fun p hp => .inr (by repeat (first | assumption | refine List.mem_cons_of_mem _ ?_))⟩)
  case post =>
    refine' ⟨Rd.mk _ _ _ _ _ _ _ _ _ _ _ _ _ _ _ _ _ _ _ _ _ _ _ _ _ _ _ _, _, _, _, ?ok, rfl, rfl, by assumption, ?al, ?c1, ?c2⟩
    case ok => exact Rd.Ok.mk (by assumption) (by assumption) (by assumption) (by dsimp only; omega) (by dsimp only; omega) (by dsimp only; omega) (by dsimp only; omega) (by dsimp only; omega) (by dsimp only; omega) (by dsimp only; omega) (by dsimp only; omega)
    case al => exact ⟨by dsimp only; omega, TailLt.up (by assumption) (by dsimp only; omega)⟩
    case c1 => (dsimp only; omega)
    case c2 => (dsimp only; omega)
theorem rg_Con8_1 : True := by
  k_with_none
  (k_with "my_cell_enter" => (refine' code_defCG (B := by k_asm) (F := by k_asm) (by k_asm) (N := by k_asm) (T := by k_asm) (hA := by exact rfl) (hf := by exact rfl) (hke := by assumption) (ho := by k_is) (hcd := by k_is) (hroom := by ktr_room) (hbind := by exact BindsTo.of_eq rfl) (hkind := by exact rfl) (hnd := by decide +kernel) ?_ (hco := by exact rfl) (hgen := by exact rfl) (hk := by exact rfl); k_whole; walk_at "ice2d52"))
  (k_with "eval Constant int" => (refine constI ?_))
  (k_with "eval Constant str" => (refine constS ?_))
  (k_with "eval Call" => ((show let Q9 := _; wpAny _ _ _ Q9 _ _); intro Q9; refine Call_ ?_))
  (k_with "eval Call Attribute" => ((show let Q9 := _; wpAny _ _ _ Q9 _ _); intro Q9; refine MethodCall_ ?_))
  (k_with "exec If" => ((show let Q9 := _; wpAny _ _ _ Q9 _ _); intro Q9; refine wpAny_If ?_))
  (k_with "exec Assign" => ((show let Q9 := _; wpAny _ _ _ Q9 _ _); intro Q9; refine wpAny_Assign_Name ?_))
  (k_with "exec AugAssign" => ((show let Q9 := _; wpAny _ _ _ Q9 _ _); intro Q9; refine wpAny_AugAssign_Name ?_))
  (k_with "eval BinOp" => ((show let Q9 := _; wpAny _ _ _ Q9 _ _); intro Q9; refine wpAny_BinOp ?_))
  (k_with "eval Compare" => ((show let Q9 := _; wpAny _ _ _ Q9 _ _); intro Q9; refine wpAny_Compare1 ?_))
  (k_with "isTrue Compare" => ((show let Q9 := _; wpAny _ _ _ Q9 _ _); intro Q9; refine wpAny_isTrue_Compare1 ?_))
  (k_with "eval Subscript" => ((show let Q9 := _; wpAny _ _ _ Q9 _ _); intro Q9; refine Subscript_ ?_))
  (k_with "my_k_all" => (refine' TailLt.ne (h := by assumption) (hc := by first | exact Nat.le_refl _ | omega)))
  (k_with "my_k_all" => (exact TailOff.ne (by assumption)))
  (k_with "my_k_all" => (exact allLt_ne (by assumption)))
  (k_with "a" => (with_reducible assumption))
  (k_with "cn" => (first | k_extra "a" | (apply And.right; first | k_extra "a" | (apply And.right; first | k_extra "a" | (apply And.right; first | k_extra "a" | (apply And.right; first | k_extra "a" | (apply And.right; first | k_extra "a" | (apply And.right; first | k_extra "a" | (apply And.right; first | k_extra "a" | (apply And.right; first | k_extra "a" | (apply And.right; first | k_extra "a" | (apply And.right; first | k_extra "a" | (apply And.right; first | k_extra "a" | (apply And.right; first | k_extra "a" | (apply And.right; k_extra "a")))))))))))))))
  (k_with "cj" => (first | k_extra "cn" | (apply And.left; k_extra "cn")))
  (k_with "lt" => ((first | (with_reducible show @LT.lt Nat _ _ _) | (with_reducible show @LE.le Nat _ _ _)); first | k_extra "cj" | (with_reducible refine Nat.lt_of_succ_lt ?_; k_extra "cj") | (with_reducible refine Nat.le_of_lt ?_; first | k_extra "cj" | (refine Nat.lt_of_succ_lt ?_; k_extra "cj")) | (with_reducible refine Nat.lt_trans ?_ (by with_reducible assumption); k_extra "lt")))
  (k_with "lt0" => (first | with_reducible exact Nat.lt_succ_self _ | with_reducible assumption | (with_reducible refine Nat.lt_succ_of_lt ?_; k_extra "lt0")))
  (k_with "my_k_ne" => (refine neN ?_; (try dsimp only); first | (refine Nat.ne_of_lt ?_; k_extra "lt0") | (refine Nat.ne_of_gt ?_; k_extra "lt0") | (refine Nat.ne_of_lt ?_; k_extra "lt") | (refine Nat.ne_of_gt ?_; k_extra "lt")))
  (k_with "call type:list" => (k_here; (with_reducible show wpAny _ _ (call (Value.type "list") [Value.str _ _]) _ _ _); k_dflt (refine' listStrN (hh := by exact rfl) (F := by k_asm) (N := by k_asm) ?_ (hsz := by (rw [sizeLine_eq]; omega))); walk_at "i7ea1da"))
  (k_with "call builtin:list.reverse" => (k_here; (with_reducible show wpAny _ _ (call (Value.builtin _) _) _ _ _); k_dflt (refine' kl_reverse (F := by k_asm) (N := by k_asm) (e := by exact rfl) (U := by k_upd) (hz := by exact strs_room (by assumption) (by assumption)) ?_); kl_rest))
  (k_with "call ref" => (k_here; k_dflt ((with_reducible show wpAny _ _ (call (Value.ref 73) [_]) _ _ _); refine' g_lex (F := by k_asm) (N := by k_asm) (B := by k_asm) (X := by k_asm) (T := by k_asm) (hk := by first | exact rfl | assumption) (hd := by first | assumption | ktr_room) (hu := by first | assumption | ktr_units | ktr_room) ?_); intro ds9 xs9 ps9 k19 t19 k29 k39 tw9 k49 h9 tk9 F9 N9 l9 l8 l7; (try k_lt l9)))
  (k_with "eval Lambda" => (k_here; k_dflt (refine' kla_eval (hdef := by exact rfl) ?_); (first | (k_dflt (refine' kla_nest (F := by k_asm) (N := by k_asm) (T := by k_asm) (C := by exact code171 (by k_asm)) (hcd := by exact rfl) (U := by k_updF) (ht := by exact trivial) (hnf := by exact rfl) (hcl := by exact rfl) ?_; k_whole); walk_at "id82b68") | (k_dflt (refine' kla_hit (F := by k_asm) (N := by k_asm) (T := by k_asm) (C := by exact code171 (by k_asm)) (hcd := by exact rfl) (hmem := by k_mem) (ht := by exact trivial) (hf := by exact rfl) (hcl := by exact rfl) ?_; k_whole); walk_at "i2bffbd"))))
  (k_with "omega" => (first | k_extra "lt"))
  (k_with "ice2d52" => (intro g' L' h' tk' cells' FG'; (show let m0 := _; Fr _ _ _ m0 → _); intro m0 F'; intro N' Y' B' X' T' l1 GS'; (try k_lt l1); (try (first | have tl' := TailLt.mk l1 | have tl' := TailLt.mk l1.2 | have tl' := TailLt.mk l1.2.2 | have tl' := TailLt.mk l1.2.2.2 | have tl' := TailLt.mk l1.2.2.2.2 | have tl' := TailLt.mk l1.2.2.2.2.2)); k_cells Y'; (try simp only [List.cons_append, List.nil_append] at N'); (try dsimp only); (try k_lift B'); (try k_fold); (show let Q' := _; let E' := _; wpAny _ _ _ Q' E' _); intro Q' E'))
  (k_with "i7ea1da" => (intro D' h' tk' zs' c' F' N' l1 X' S'; (try k_lt l1)))
  (k_with "my_k_enter" => (refine' code_def (B := by k_asm) (F := by k_asm) (by k_asm) (N := by k_asm) (T := by k_asm) (hA := by exact rfl) (hf := by exact rfl) (hke := by first | exact rfl | assumption) (ho := by k_is) (hcd := by k_is) (hroom := by first | ktr_room | k_room) (hbind := by first | exact BindsTo.of_eq rfl | exact binds_K (by k_in) rfl (by k_is) rfl rfl rfl | fail "k_enter: no rule for these arguments") (hloc := by exact locs rfl) ?_ (hco := by exact rfl) (hgen := by exact rfl) (hk := by exact rfl) (hcell := by decide); k_whole; intro g' L' h' FG' F' N' B' X' T'; (try dsimp only); (try k_lift B'); (try k_fold)))
  (k_with "id82b68" => (intro f' c' oc' vs' t' ct' h' tk' F' N' d1' d2' l1 l2; (try dsimp only at N'); (try k_lt l1); (try k_lt2 l2)))
  (k_with "i2bffbd" => (intro f' ct' h' tk' F' N' l1; (try dsimp only at N'); (try k_lt l1)))
  trivial
inductive ReadB (w : World) (tail : List (Addr × Obj)) (x : Str) (cc : Addr) (oc : Obj) (v : Value) (news' : List (Addr × Obj)) : Prop
  | mk (r : Rd) (tl : Tok) (zs : List Value) (n : Nat) : (r.Ok) → (v = .ref r.xr) → (news' = r.news w.params 1 tl [] 0 zs.reverse n ((167, tabObj #[rawInt 187, rawInt 18, .ref cc]) :: (cc, oc) :: tail)) → (StrsAre zs (x.cps.toList.map fun c => ⟨#[c]⟩)) → (AllLt r.cL ((167, tabObj #[]) :: (cc, oc) :: tail)) → (r.cc = cc) → (r.oc = oc) → ReadB w tail x cc oc v news'
set_option maxHeartbeats 4000000 in
theorem c_readerB (w : World) (q : Program) (mean : ExcName → Option Value) (mg mb : Str → Option Value) (loose : List Str) (tail : List (Addr × Obj)) (x : Str) (tx : Tok) (cc : Addr) (oc : Obj) (vs : Array Value) (tq : Tok) :
  ClM 2 rw_sn0078_01.row.prog w (K0 w.params) q loose mean mg mb 172 ((167, tabObj #[rawInt 187, rawInt 18, .ref cc]) :: (cc, oc) :: tail) [] (x.length ≤ 1000 ∧ TailOff 167 tail ∧ oc.data = .fields vs ∧ vs[1]? = some (.str (Str.ofString "_law_reader.<locals>.<lambda>") tq)) [.str x tx]
    (ReadB w tail x cc oc) := by
  k_fill
  dsimp only [ClM]; intros; rename_i hpre _ _ hret; obtain ⟨hx, hoff, hoc, hvs⟩ := hpre
  k_dflt cell_enter
  k_steps
  refine' hret _ _ _ _ ?post (by k_asm) (news_put4 (p := (cc, oc)) (by assumption) (by k_mem)) (clm_ext (by assumption) (by assumption) (by assumption) (by assumption) fun p hp => .inr (by repeat (first | assumption | refine List.mem_cons_of_mem _ ?_)))
  case post =>
    refine' ⟨Rd.mk _ _ _ _ _ _ _ _ _ _ _ _ _ _ _ _ _ _ _ _ _ _ _ _ _ _ _ _, _, _, _, ?ok, rfl, rfl, by assumption, ?al, rfl, rfl⟩
    case ok => exact Rd.Ok.mk (by assumption) (by assumption) (by assumption) (by dsimp only; omega) (by dsimp only; omega) (by dsimp only; omega) (by dsimp only; omega) (by dsimp only; omega) (by dsimp only; omega) (by dsimp only; omega) (by dsimp only; omega)
    case al => exact ⟨by dsimp only; omega, by dsimp only; omega, TailLt.up (by assumption) (by dsimp only; omega)⟩
theorem rg_Con5_1 : True := by
  k_with_none
  (k_with "my_cell_enter" => (refine' code_defG (B := by k_asm) (F := by k_asm) (by k_asm) (N := by k_asm) (T := by k_asm) (hA := by exact rfl) (hf := by exact rfl) (hke := by assumption) (ho := by k_is) (hcd := by k_is) (hroom := by ktr_room) (hbind := by exact BindsTo.of_eq rfl) (hloc := by exact locs rfl) ?_ (hco := by exact rfl) (hgen := by exact rfl) (hk := by exact rfl) (hcell := by decide); k_whole; walk_at "i4bcc05"))
  (k_with "eval Constant int" => (refine constI ?_))
  (k_with "eval Constant str" => (refine constS ?_))
  (k_with "eval Call" => ((show let Q9 := _; wpAny _ _ _ Q9 _ _); intro Q9; refine Call_ ?_))
  (k_with "eval Call Attribute" => ((show let Q9 := _; wpAny _ _ _ Q9 _ _); intro Q9; refine MethodCall_ ?_))
  (k_with "exec If" => ((show let Q9 := _; wpAny _ _ _ Q9 _ _); intro Q9; refine wpAny_If ?_))
  (k_with "exec Assign" => ((show let Q9 := _; wpAny _ _ _ Q9 _ _); intro Q9; refine wpAny_Assign_Name ?_))
  (k_with "exec AugAssign" => ((show let Q9 := _; wpAny _ _ _ Q9 _ _); intro Q9; refine wpAny_AugAssign_Name ?_))
  (k_with "eval BinOp" => ((show let Q9 := _; wpAny _ _ _ Q9 _ _); intro Q9; refine wpAny_BinOp ?_))
  (k_with "eval Compare" => ((show let Q9 := _; wpAny _ _ _ Q9 _ _); intro Q9; refine wpAny_Compare1 ?_))
  (k_with "isTrue Compare" => ((show let Q9 := _; wpAny _ _ _ Q9 _ _); intro Q9; refine wpAny_isTrue_Compare1 ?_))
  (k_with "eval Subscript" => ((show let Q9 := _; wpAny _ _ _ Q9 _ _); intro Q9; refine Subscript_ ?_))
  (k_with "my_k_all" => (exact TailOff.ne (by assumption)))
  (k_with "my_k_all" => (exact allLt_ne (by assumption)))
  (k_with "a" => (with_reducible assumption))
  (k_with "cn" => (first | k_extra "a" | (apply And.right; first | k_extra "a" | (apply And.right; first | k_extra "a" | (apply And.right; first | k_extra "a" | (apply And.right; first | k_extra "a" | (apply And.right; first | k_extra "a" | (apply And.right; first | k_extra "a" | (apply And.right; first | k_extra "a" | (apply And.right; first | k_extra "a" | (apply And.right; first | k_extra "a" | (apply And.right; first | k_extra "a" | (apply And.right; first | k_extra "a" | (apply And.right; first | k_extra "a" | (apply And.right; k_extra "a")))))))))))))))
  (k_with "cj" => (first | k_extra "cn" | (apply And.left; k_extra "cn")))
  (k_with "lt" => ((first | (with_reducible show @LT.lt Nat _ _ _) | (with_reducible show @LE.le Nat _ _ _)); first | k_extra "cj" | (with_reducible refine Nat.lt_of_succ_lt ?_; k_extra "cj") | (with_reducible refine Nat.le_of_lt ?_; first | k_extra "cj" | (refine Nat.lt_of_succ_lt ?_; k_extra "cj")) | (with_reducible refine Nat.lt_trans ?_ (by with_reducible assumption); k_extra "lt")))
  (k_with "lt0" => (first | with_reducible exact Nat.lt_succ_self _ | with_reducible assumption | (with_reducible refine Nat.lt_succ_of_lt ?_; k_extra "lt0")))
  (k_with "my_k_ne" => (refine neN ?_; (try dsimp only); first | (refine Nat.ne_of_lt ?_; k_extra "lt0") | (refine Nat.ne_of_gt ?_; k_extra "lt0") | (refine Nat.ne_of_lt ?_; k_extra "lt") | (refine Nat.ne_of_gt ?_; k_extra "lt")))
  (k_with "callWith ref" => (k_here; k_dflt (first   | (refine' callWith_F (_X := by exact FnAt.of (by k_asm) (by k_mem)) ?_; k_whole)   | (refine' callWith_F0 (X := by exact FnAt.of (by k_asm) (by k_mem)) ?_; k_whole; try dsimp only [List.nil_append, List.cons_append]))))
  (k_with "eval Name" => (k_here; (fail_if_success (with_reducible show wpAny _ _ (eval _ (compEnvC _ _ _ _)) _ _ _)); k_dflt (refine' nameX_F (N := by k_asm) (hc := by rfl) (hm := by k_mem) (hd := by k_asm) ?_ (hk := by rfl) (hx := by rfl); k_whole)))
  (k_with "truthy ref" => (k_here; (with_reducible show wpAny _ _ (truthy (Value.ref _)) _ _ _); k_dflt (refine' truthyNil (N := by k_asm) (hm := by k_mem) ?_; k_whole)))
  (k_with "truthy ref" => (k_here; (with_reducible show wpAny _ _ (truthy (Value.ref _)) _ _ _); k_dflt (refine' truthySnoc (N := by k_asm) (hm := by k_mem) (hz := by assumption) ?_; k_whole)))
  (k_with "truthy ref" => (k_here; (with_reducible show wpAny _ _ (truthy (Value.ref _)) _ _ _); k_dflt (refine' truthyCons (N := by k_asm) (hm := by k_mem) (hz := by assumption) ?_; k_whole)))
  (k_with "getMethod ref" => (k_here; (with_reducible show wpAny _ _ (getMethod (Value.ref _) (PySem.Str.ofString "read") _) _ _ _); k_dflt (refine' kmu_own (F := by k_asm) (by k_asm) (I := by k_inst) (hg := by k_is) (hf := by k_is) ?_; k_whole)))
  (k_with "getMethod ref" => (k_here; (with_reducible show wpAny _ _ (getMethod (Value.ref _) (PySem.Str.ofString "pop") _) _ _ _); k_dflt (refine' kl_method (N := by k_asm) (hm := by k_mem) PySem.F.slot_list_pop PySem.F.type_list_pop ?_)))
  (k_with "omega" => (first | k_extra "lt"))
  (k_with "i4bcc05" => (intro g' L' h' FG' F' N' B' X' T' GS'; (try dsimp only); (try k_lift B'); (try k_fold)))
  (k_with "call ref" => (k_here; k_dflt (refine wpAny_call ?_; (refine' kla_code ?k1 ?k2 ?k3 ?k4 ?k5 ?kA ?kF ?kK ?k6 ?k7 ?k8 ?k9 ?kB ?_ ?c2 ?c3 ?c4 ?c5; (case kA => exact rfl); (case kF => exact rfl); (case kK => first | exact rfl | assumption); (case k1 => k_asm); (case k2 => k_asm); (case k3 => k_asm); (case k4 => k_asm); (case k5 => k_asm); (case k6 => k_mem); (case k7 => exact codeRec_news (by k_asm) (by k_mem) (by assumption) (by assumption)); (case k8 => first | ktr_room | k_room); (case k9 => exact rfl); (case c5 => decide); (case kB => exact locs rfl); (case c2 => exact rfl); (case c3 => exact rfl); (case c4 => exact rfl); k_whole; intro g' L' h' FG' F' N' B' X' T'; (try dsimp only); (try k_lift B'); (try k_fold)))))
  (k_with "call builtin:list.pop" => (k_here; k_dflt ((with_reducible show wpAny _ _ (call (Value.builtin _) [Value.ref _]) _ _ _); refine' kl_pop ?F ?N ?e ?U ?z ?_; (case F => k_asm); (case N => k_asm); (case U => k_upd); (case e => exact kl_last_snoc _ _); (case z => exact snoc_room (by assumption))); kl_rest))
  trivial
set_option maxHeartbeats 4000000 in
theorem c_readNil (w : World) (q : Program) (mean : ExcName → Option Value) (mg mb : Str → Option Value) (loose : List Str) (tail : List (Addr × Obj)) (r : Rd) (ln : Int) (tl : Tok) (pv : List Value) (np nz : Nat) :
  ClM 3 rw_sn0078_01.row.prog w (K0 w.params) q loose mean mg mb 56 (r.news w.params ln tl pv np [] nz tail) [] r.Ok [.ref r.xr]
    (fun v news' => (∃ t, v = .str (Str.ofString "") t) ∧ news' = r.news w.params ln tl pv np [] nz tail) := by
  k_fill
  dsimp only [ClM, Rd.news]; intros; rename_i hpre _ _ hret; obtain ⟨oc1, oc2, oc3, o1, o2, o3, o4, o5, o6, o7, o8⟩ := hpre
  k_dflt cell_enter
  k_steps
  all_goals (refine' hret _ _ _ _ ⟨⟨_, rfl⟩, rfl⟩ (by k_asm) (by assumption) ?ext)
  all_goals exact clm_ext (by assumption) (by assumption) (by assumption) (by assumption) fun p hp => .inr (by repeat (first | assumption | refine List.mem_cons_of_mem _ ?_))
set_option maxHeartbeats 4000000 in
theorem c_readCons (w : World) (q : Program) (mean : ExcName → Option Value) (mg mb : Str → Option Value) (loose : List Str) (tail : List (Addr × Obj)) (r : Rd) (ln : Int) (tl : Tok) (pv : List Value) (np nz : Nat) (zl : List Value) (c : Nat) (u : Tok) :
  ClM 3 rw_sn0078_01.row.prog w (K0 w.params) q loose mean mg mb 56 (r.news w.params ln tl pv np (zl ++ [.str ⟨#[c]⟩ u]) nz tail) [r.l, r.dr] (r.Ok ∧ zl.length ≤ 1000 ∧ TailOff r.l tail ∧ TailOff r.dr tail ∧ neN' r.cc r.l ∧ neN' r.cc r.dr) [.ref r.xr]
    (fun v news' => v = .str ⟨#[c]⟩ u ∧ ∃ ln' tl', news' = r.news w.params ln' tl' pv np zl (nz + 1) tail) := by
  k_fill
  dsimp only [ClM, Rd.news, neN']; intros; rename_i hpre _ _ hret; obtain ⟨⟨oc1, oc2, oc3, o1, o2, o3, o4, o5, o6, o7, o8⟩, hz, hf1, hf2, n1, n2⟩ := hpre
  k_dflt cell_enter
  k_steps
  all_goals (refine' hret _ _ _ _ ⟨rfl, _, _, rfl⟩ (by k_asm) (by assumption) (clm_ext (by assumption) (by assumption) (by assumption) (by assumption) (by
    simp only [List.forall_mem_cons]
    refine ⟨?_, ?_, ?_, ?_, ?_, ?_, ?_, ?_, ?_, ?_, ?_⟩
    all_goals first | exact .inr (by k_mem) | exact .inl (by k_mem) | exact fun p hp => .inr (by repeat (first | assumption | refine List.mem_cons_of_mem _ ?_)))))
theorem rg_Con6_1 : True := by
  k_with_none
  (k_with "my_cell_enter" => (refine' code_defG (B := by k_asm) (F := by k_asm) (by k_asm) (N := by k_asm) (T := by k_asm) (hA := by exact rfl) (hf := by exact rfl) (hke := by assumption) (ho := by k_is) (hcd := by k_is) (hroom := by ktr_room) (hbind := by exact BindsTo.of_eq rfl) (hloc := by exact locs rfl) ?_ (hco := by exact rfl) (hgen := by exact rfl) (hk := by exact rfl) (hcell := by decide); k_whole; walk_at "i4bcc05"))
  (k_with "eval Constant int" => (refine constI ?_))
  (k_with "eval Constant str" => (refine constS ?_))
  (k_with "eval Call" => ((show let Q9 := _; wpAny _ _ _ Q9 _ _); intro Q9; refine Call_ ?_))
  (k_with "eval Call Attribute" => ((show let Q9 := _; wpAny _ _ _ Q9 _ _); intro Q9; refine MethodCall_ ?_))
  (k_with "exec If" => ((show let Q9 := _; wpAny _ _ _ Q9 _ _); intro Q9; refine wpAny_If ?_))
  (k_with "exec Assign" => ((show let Q9 := _; wpAny _ _ _ Q9 _ _); intro Q9; refine wpAny_Assign_Name ?_))
  (k_with "exec AugAssign" => ((show let Q9 := _; wpAny _ _ _ Q9 _ _); intro Q9; refine wpAny_AugAssign_Name ?_))
  (k_with "eval BinOp" => ((show let Q9 := _; wpAny _ _ _ Q9 _ _); intro Q9; refine wpAny_BinOp ?_))
  (k_with "eval Compare" => ((show let Q9 := _; wpAny _ _ _ Q9 _ _); intro Q9; refine wpAny_Compare1 ?_))
  (k_with "isTrue Compare" => ((show let Q9 := _; wpAny _ _ _ Q9 _ _); intro Q9; refine wpAny_isTrue_Compare1 ?_))
  (k_with "eval Subscript" => ((show let Q9 := _; wpAny _ _ _ Q9 _ _); intro Q9; refine Subscript_ ?_))
  (k_with "my_k_all" => (exact TailOff.ne (by assumption)))
  (k_with "my_k_all" => (exact allLt_ne (by assumption)))
  (k_with "a" => (with_reducible assumption))
  (k_with "cn" => (first | k_extra "a" | (apply And.right; first | k_extra "a" | (apply And.right; first | k_extra "a" | (apply And.right; first | k_extra "a" | (apply And.right; first | k_extra "a" | (apply And.right; first | k_extra "a" | (apply And.right; first | k_extra "a" | (apply And.right; first | k_extra "a" | (apply And.right; first | k_extra "a" | (apply And.right; first | k_extra "a" | (apply And.right; first | k_extra "a" | (apply And.right; first | k_extra "a" | (apply And.right; first | k_extra "a" | (apply And.right; k_extra "a")))))))))))))))
  (k_with "cj" => (first | k_extra "cn" | (apply And.left; k_extra "cn")))
  (k_with "lt" => ((first | (with_reducible show @LT.lt Nat _ _ _) | (with_reducible show @LE.le Nat _ _ _)); first | k_extra "cj" | (with_reducible refine Nat.lt_of_succ_lt ?_; k_extra "cj") | (with_reducible refine Nat.le_of_lt ?_; first | k_extra "cj" | (refine Nat.lt_of_succ_lt ?_; k_extra "cj")) | (with_reducible refine Nat.lt_trans ?_ (by with_reducible assumption); k_extra "lt")))
  (k_with "lt0" => (first | with_reducible exact Nat.lt_succ_self _ | with_reducible assumption | (with_reducible refine Nat.lt_succ_of_lt ?_; k_extra "lt0")))
  (k_with "my_k_ne" => (refine neN ?_; (try dsimp only); first | (refine Nat.ne_of_lt ?_; k_extra "lt0") | (refine Nat.ne_of_gt ?_; k_extra "lt0") | (refine Nat.ne_of_lt ?_; k_extra "lt") | (refine Nat.ne_of_gt ?_; k_extra "lt")))
  (k_with "callWith ref" => (k_here; k_dflt (first   | (refine' callWith_F (_X := by exact FnAt.of (by k_asm) (by k_mem)) ?_; k_whole)   | (refine' callWith_F0 (X := by exact FnAt.of (by k_asm) (by k_mem)) ?_; k_whole; try dsimp only [List.nil_append, List.cons_append]))))
  (k_with "eval Name" => (k_here; (fail_if_success (with_reducible show wpAny _ _ (eval _ (compEnvC _ _ _ _)) _ _ _)); k_dflt (refine' nameX_F (N := by k_asm) (hc := by rfl) (hm := by k_mem) (hd := by k_asm) ?_ (hk := by rfl) (hx := by rfl); k_whole)))
  (k_with "truthy ref" => (k_here; (with_reducible show wpAny _ _ (truthy (Value.ref _)) _ _ _); k_dflt (refine' truthyNil (N := by k_asm) (hm := by k_mem) ?_; k_whole)))
  (k_with "truthy ref" => (k_here; (with_reducible show wpAny _ _ (truthy (Value.ref _)) _ _ _); k_dflt (refine' truthySnoc (N := by k_asm) (hm := by k_mem) (hz := by assumption) ?_; k_whole)))
  (k_with "truthy ref" => (k_here; (with_reducible show wpAny _ _ (truthy (Value.ref _)) _ _ _); k_dflt (refine' truthyCons (N := by k_asm) (hm := by k_mem) (hz := by assumption) ?_; k_whole)))
  (k_with "omega" => (first | k_extra "lt"))
  (k_with "i4bcc05" => (intro g' L' h' FG' F' N' B' X' T' GS'; (try dsimp only); (try k_lift B'); (try k_fold)))
  (k_with "call ref" => (k_here; k_dflt (refine wpAny_call ?_; (refine' kla_code ?k1 ?k2 ?k3 ?k4 ?k5 ?kA ?kF ?kK ?k6 ?k7 ?k8 ?k9 ?kB ?_ ?c2 ?c3 ?c4 ?c5; (case kA => exact rfl); (case kF => exact rfl); (case kK => first | exact rfl | assumption); (case k1 => k_asm); (case k2 => k_asm); (case k3 => k_asm); (case k4 => k_asm); (case k5 => k_asm); (case k6 => k_mem); (case k7 => exact codeRec_news (by k_asm) (by k_mem) (by assumption) (by assumption)); (case k8 => first | ktr_room | k_room); (case k9 => exact rfl); (case c5 => decide); (case kB => exact locs rfl); (case c2 => exact rfl); (case c3 => exact rfl); (case c4 => exact rfl); k_whole; intro g' L' h' FG' F' N' B' X' T'; (try dsimp only); (try k_lift B'); (try k_fold)))))
  (k_with "call builtin:list.pop" => (k_here; k_dflt ((with_reducible show wpAny _ _ (call (Value.builtin _) [Value.ref _]) _ _ _); refine' kl_pop ?F ?N ?e ?U ?z ?_; (case F => k_asm); (case N => k_asm); (case U => k_upd); (case e => exact kl_last_snoc _ _); (case z => exact snoc_room (by assumption))); kl_rest))
  (k_with "call builtin:list.pop" => (k_here; k_dflt ((with_reducible show wpAny _ _ (call (Value.builtin _) [Value.ref _, Value.int _ _]) _ _ _); refine' kl_popAt (p := []) (k := 0) ?F ?N ?f ?k ?e ?U ?z ?_; (case F => k_asm); (case N => k_asm); (case U => k_upd); (case f => rfl); (case k => exact cons_idx _ _); (case e => exact rfl); (case z => exact cons_room (by assumption))); kl_rest))
  trivial
set_option maxHeartbeats 4000000 in
theorem c_tokenPop (w : World) (q : Program) (mean : ExcName → Option Value) (mg mb : Str → Option Value) (loose : List Str) (tail : List (Addr × Obj)) (r : Rd) (ln : Int) (tl : Tok) (v : Value) (pv : List Value) (np nz : Nat) (zl : List Value) :
  ClM 2 rw_sn0078_01.row.prog w (K0 w.params) q loose mean mg mb 63 (r.news w.params ln tl (v :: pv) np zl nz tail) [r.pr] (r.Ok ∧ pv.length ≤ 1000 ∧ TailOff r.pr tail ∧ neN' r.cc r.pr) [.ref r.xr]
    (fun v' news' => v' = v ∧ news' = r.news w.params ln tl pv (np + 1) zl nz tail) := by
  k_fill
  dsimp only [ClM, Rd.news, neN']; intros; rename_i hpre _ _ hret; obtain ⟨⟨oc1, oc2, oc3, o1, o2, o3, o4, o5, o6, o7, o8⟩, hz, hf1, n1⟩ := hpre
  k_dflt cell_enter
  k_steps
  all_goals (refine' hret _ _ _ _ ⟨rfl, rfl⟩ (by k_asm) (by assumption) (clm_ext (by assumption) (by assumption) (by assumption) (by assumption) (by
    simp only [List.forall_mem_cons]
    refine ⟨?_, ?_, ?_, ?_, ?_, ?_, ?_, ?_, ?_, ?_, ?_⟩
    all_goals first | exact .inr (by k_mem) | exact .inl (by k_mem) | exact fun p hp => .inr (by repeat (first | assumption | refine List.mem_cons_of_mem _ ?_)))))
set_option maxHeartbeats 4000000 in
theorem c_push (w : World) (q : Program) (mean : ExcName → Option Value) (mg mb : Str → Option Value) (loose : List Str) (tail : List (Addr × Obj)) (r : Rd) (ln : Int) (tl : Tok) (v : Value) (pv : List Value) (np nz : Nat) (zl : List Value) :
  ClM 2 rw_sn0078_01.row.prog w (K0 w.params) q loose mean mg mb 70 (r.news w.params ln tl pv np zl nz tail) [r.pr] (r.Ok ∧ pv.length ≤ 1000 ∧ TailOff r.pr tail ∧ neN' r.cc r.pr) [.ref r.xr, v]
    (fun v' news' => v' = .none ∧ news' = r.news w.params ln tl (pv ++ [v]) (np + 1) zl nz tail) := by
  k_fill
  dsimp only [ClM, Rd.news, neN']; intros; rename_i hpre _ _ hret; obtain ⟨⟨oc1, oc2, oc3, o1, o2, o3, o4, o5, o6, o7, o8⟩, hz, hf1, n1⟩ := hpre
  k_dflt cell_enter
  k_steps
  all_goals (try simp only [List.push_toArray] at *)
  all_goals (refine' hret _ _ _ _ ⟨rfl, rfl⟩ (by k_asm) (by assumption) (clm_ext (by assumption) (by assumption) (by assumption) (by assumption) (by
    simp only [List.forall_mem_cons]
    refine ⟨?_, ?_, ?_, ?_, ?_, ?_, ?_, ?_, ?_, ?_, ?_⟩
    all_goals first | exact .inr (by k_mem) | exact .inl (by k_mem) | exact fun p hp => .inr (by repeat (first | assumption | refine List.mem_cons_of_mem _ ?_)))))
theorem rz_ConI : True := by k_with_none; trivial
local macro_rules | `(tactic| omega) => `(tactic| omega (config := {}))
theorem slot_ci_next : Slot "callable_iterator" "__next__" "callable_iterator.__next__" :=
  .of (owner := "callable_iterator") (n := "__next__") (by rw [typeLookup_type, builtinLookup_eq_fast]; kernel_rfl) (by decide +kernel) (by decide +kernel) (by decide +kernel)
    (by first | exact .inl (by decide +kernel) | exact .inr (by decide +kernel)) (by rw [isSubtype_type]; kernel_rfl)
theorem slot_ci_iter : Slot "callable_iterator" "__iter__" "callable_iterator.__iter__" :=
  .of (owner := "callable_iterator") (n := "__iter__") (by rw [typeLookup_type, builtinLookup_eq_fast]; kernel_rfl) (by decide +kernel) (by decide +kernel) (by decide +kernel)
    (by first | exact .inl (by decide +kernel) | exact .inr (by decide +kernel)) (by rw [isSubtype_type]; kernel_rfl)
theorem entry_ci_next : entryFor table "callable_iterator.__next__" = some Builtin.«callable_iterator.__next__» := entryFor_of_fast (by kernel_rfl)
theorem entry_ci_iter : entryFor table "callable_iterator.__iter__" = some Builtin.«dict_keyiterator.__iter__» :=
  entryFor_alias (id' := "dict_keyiterator.__iter__") (by kernel_rfl) rfl (by decide +kernel) (by kernel_rfl)
theorem args_ci_next (a : Value) : argsOk "callable_iterator.__next__" ⟨[a], []⟩ := by unfold argsOk; kernel_rfl
theorem args_ci_iter (a : Value) : argsOk "callable_iterator.__iter__" ⟨[a], []⟩ := by unfold argsOk; kernel_rfl
noncomputable abbrev ciObj (f se : Value) (ended : Bool) : Obj := { cls := .type "callable_iterator", data := .fields #[f, se, .bool ended] }
section
variable {prog : Program} {w : World} {A : Around} {E : Value → Shared → Prop} {s : Shared} {I M fn : Addr} {self se : Value} {fo : Obj} {fd : FuncData} {ts : Tok}
theorem borrows_method {Q : Bool → Shared → Prop} (hM : s.heap.get? M = some (methodObj (.ref fn) self)) (hf : s.heap.get? fn = some fo) (hd : fo.data = .func fd) (h : Q true s) :
    wpAny (model prog w) A (borrowsExactly (.ref M)) Q E s := by
  unfold borrowsExactly
  refine wpAny_bind (wpAny_load hM ?_)
  dsimp only
  rw [if_pos (by decide)]
  show wpAny _ _ (load fn >>= _) _ _ _
  refine wpAny_bind (wpAny_load hf ?_)
  rw [hd]
  exact wpAny_pure h
theorem ci_item {x : Str} {u : Tok} {Q : Option Value → Shared → Prop} (hI : s.heap.get? I = some (ciObj (.ref M) (.str (Str.ofString "") ts) false)) (hM : s.heap.get? M = some (methodObj (.ref fn) self)) (hf : s.heap.get? fn = some fo) (hd : fo.data = .func fd) (hx : x ≠ Str.ofString "")
    (hc : codeAny (model prog w) A.in1 (.call (.ref fn) ⟨[self], []⟩) (fun r s' => match r with | .ok (.ret v) => v = .str x u ∧ s'.heap.get? I = some (ciObj (.ref M) (.str (Str.ofString "") ts) false) ∧ Q (some v) s' | .ok _ => False | .error _ => False) s) :
    wpAny (model prog w) A (pyNext (.ref I)) Q E s := by
  unfold pyNext
  refine wpAny_bind (wpAny_attempt (wpAny_callSpecial?_slot (name := Str.ofString "__next__") (T := "callable_iterator") ⟨_, hI, rfl⟩ slot_ci_next
    (wpAny_call_entry slot_ci_next ⟨_, hI, rfl⟩ entry_ci_next ?_ (args_ci_next _))))
  show wpAny _ _ (field (.ref I) 2 >>= _) _ _ s
  refine wpAny_bind (wpAny_field hI rfl (x := .bool false) rfl ?_)
  rw [if_neg (by decide)]
  show wpAny _ _ (field (.ref I) 0 >>= _) _ _ s
  refine wpAny_bind (wpAny_field hI rfl (x := .ref M) rfl ?_)
  refine wpAny_bind (wpAny_attempt ?_)
  unfold callOutOfASlot
  refine wpAny_bind (borrows_method hM hf hd ?_)
  rw [if_pos rfl]
  refine wpAny_callBorrowed (method_call hM (codeAny_mono hc fun r s' hr => ?_))
  cases r with
  | error e => exact hr.elim
  | ok f =>
    cases f with
    | ret v =>
      obtain ⟨rfl, hI', hq⟩ := hr
      show wpAny _ _ (field (.ref I) 2 >>= _) _ _ s'
      refine wpAny_bind (wpAny_field hI' rfl (x := .bool false) rfl ?_)
      rw [if_neg (by decide)]
      show wpAny _ _ (field (.ref I) 1 >>= _) _ _ s'
      refine wpAny_bind (wpAny_field hI' rfl (x := .str (Str.ofString "") ts) rfl (wpAny_bind (wpAny_holding (wpAny_eqBool_str ?_))))
      rw [decide_eq_false (fun e => hx e.symm)]
      exact wpAny_pure ⟨_, rfl, wpAny_pure hq⟩
    | _ => exact hr.elim
theorem ci_end {Q : Option Value → Shared → Prop} (hh : A.handled = none) (hI : s.heap.get? I = some (ciObj (.ref M) (.str (Str.ofString "") ts) false)) (hM : s.heap.get? M = some (methodObj (.ref fn) self)) (hf : s.heap.get? fn = some fo) (hd : fo.data = .func fd)
    (hc : codeAny (model prog w) A.in1 (.call (.ref fn) ⟨[self], []⟩) (fun r s' => match r with
      | .ok (.ret v) => (∃ u, v = .str (Str.ofString "") u) ∧ s'.heap.get? I = some (ciObj (.ref M) (.str (Str.ofString "") ts) false) ∧ s'.heap.get? M = some (methodObj (.ref fn) self) ∧ s'.heap.get? fn = some fo ∧
          (∀ h', Heap.ExtBut I s'.heap h' → h'.get? I = some (ciObj .none .none true) → Q none { s' with heap := h' })
      | .ok _ => False | .error _ => False) s) :
    wpAny (model prog w) A (pyNext (.ref I)) Q E s := by
  unfold pyNext
  refine wpAny_bind (wpAny_attempt (wpAny_callSpecial?_slot (name := Str.ofString "__next__") (T := "callable_iterator") ⟨_, hI, rfl⟩ slot_ci_next
    (wpAny_call_entry slot_ci_next ⟨_, hI, rfl⟩ entry_ci_next ?_ (args_ci_next _))))
  show wpAny _ _ (field (.ref I) 2 >>= _) _ _ s
  refine wpAny_bind (wpAny_field hI rfl (x := .bool false) rfl ?_)
  rw [if_neg (by decide)]
  show wpAny _ _ (field (.ref I) 0 >>= _) _ _ s
  refine wpAny_bind (wpAny_field hI rfl (x := .ref M) rfl ?_)
  refine wpAny_bind (wpAny_attempt ?_)
  unfold callOutOfASlot
  refine wpAny_bind (borrows_method hM hf hd ?_)
  rw [if_pos rfl]
  refine wpAny_callBorrowed (method_call hM (codeAny_mono hc fun r s' hr => ?_))
  cases r with
  | error e => exact hr.elim
  | ok f =>
    cases f with
    | ret v =>
      obtain ⟨⟨u, rfl⟩, hI', hM', hf', hq⟩ := hr
      show wpAny _ _ (field (.ref I) 2 >>= _) _ _ s'
      refine wpAny_bind (wpAny_field hI' rfl (x := .bool false) rfl ?_)
      rw [if_neg (by decide)]
      show wpAny _ _ (field (.ref I) 1 >>= _) _ _ s'
      refine wpAny_bind (wpAny_field hI' rfl (x := .str (Str.ofString "") ts) rfl (wpAny_bind (wpAny_holding (wpAny_eqBool_str ?_))))
      rw [decide_eq_true rfl]
      refine wpAny_bind (wpAny_rule (wpAny_bind ?_))
      wp_delta
      refine wpAny_bind (wpAny_field hI' rfl (x := .ref M) rfl ?_)
      refine wpAny_bind ?_
      unfold slotLetsGo
      refine wpAny_bind (borrows_method hM' hf' hd ?_)
      rw [if_pos rfl]
      refine wpAny_pure ?_
      refine wpAny_bind (wpAny_setField hI' rfl (by simp) ?_)
      have g1 := Heap.get?_update_self (Obj.mapFields (·.setIfInBounds 0 .none)) hI' rfl
      refine wpAny_bind (wpAny_setField g1 rfl (by simp) ?_)
      have g2 := Heap.get?_update_self (Obj.mapFields (·.setIfInBounds 1 .none)) g1 rfl
      refine wpAny_setField g2 rfl (by simp) ?_
      have g3 := Heap.get?_update_self (Obj.mapFields (·.setIfInBounds 2 (.bool true))) g2 rfl
      have x3 : Heap.ExtBut I s'.heap (((s'.heap.update I (Obj.mapFields (·.setIfInBounds 0 .none))).update I (Obj.mapFields (·.setIfInBounds 1 .none))).update I (Obj.mapFields (·.setIfInBounds 2 (.bool true)))) := fun b o hb e => by
        rw [Heap.get?_update_other _ _ (Ne.symm hb), Heap.get?_update_other _ _ (Ne.symm hb), Heap.get?_update_other _ _ (Ne.symm hb)]
        exact e
      dsimp only
      revert g3 x3
      generalize (((s'.heap.update I (Obj.mapFields (·.setIfInBounds 0 .none))).update I (Obj.mapFields (·.setIfInBounds 1 .none))).update I (Obj.mapFields (·.setIfInBounds 2 (.bool true)))) = h3
      intro g3 x3
      show wpAny _ _ (newExc (.type "StopIteration") [] >>= _) _ _ _
      refine wpAny_bind ?_
      simp only [newExc, newTuple]
      refine wpAny_bind (wpAny_newObj_type ?_ (by size_fits))
      refine wpAny_bind (m := firstArgMember _ _) (wpAny_of_eq (a := Value.none) (by first | rfl | (simp only [firstArgMember]; rfl)) ?_)
      refine wpAny_newObj_type ?_ (by size_fits)
      simp only [raiseNew]
      refine wpAny_bind (wpAny_handled ?_)
      rw [show A.in1.handled = none from hh]
      refine wpAny_bind (wpAny_pure (wpAny_throw ?_))
      refine wpAny_bind (wpAny_isInstance (T := "StopIteration") (b := true) ⟨_, Heap.get?_push_size _ rfl, rfl⟩ isSubtype_stop ?_)
      exact wpAny_pure (hq _ ((x3.push _).push _) (Heap.get?_push_of_some _ (Heap.get?_push_of_some _ g3)))
    | _ => exact hr.elim
theorem ci_over {Q : Option Value → Shared → Prop} (hh : A.handled = none) (hI : s.heap.get? I = some (ciObj .none .none true))
    (hq : ∀ h', (∀ b o, s.heap.get? b = some o → h'.get? b = some o) → Q none { s with heap := h' }) :
    wpAny (model prog w) A (pyNext (.ref I)) Q E s := by
  unfold pyNext
  refine wpAny_bind (wpAny_attempt (wpAny_callSpecial?_slot (name := Str.ofString "__next__") (T := "callable_iterator") ⟨_, hI, rfl⟩ slot_ci_next
    (wpAny_call_entry slot_ci_next ⟨_, hI, rfl⟩ entry_ci_next ?_ (args_ci_next _))))
  show wpAny _ _ (field (.ref I) 2 >>= _) _ _ s
  refine wpAny_bind (wpAny_field hI rfl (x := .bool true) rfl ?_)
  rw [if_pos (by decide)]
  refine wpAny_bind (wpAny_rule ?_)
  refine wpAny_bind ?_
  show wpAny _ _ (newExc (.type "StopIteration") [] >>= _) _ _ _
  refine wpAny_bind ?_
  simp only [newExc, newTuple]
  refine wpAny_bind (wpAny_newObj_type ?_ (by size_fits))
  refine wpAny_bind (m := firstArgMember _ _) (wpAny_of_eq (a := Value.none) (by first | rfl | (simp only [firstArgMember]; rfl)) ?_)
  refine wpAny_newObj_type ?_ (by size_fits)
  simp only [raiseNew]
  refine wpAny_bind (wpAny_handled ?_)
  rw [show A.in1.handled = none from hh]
  refine wpAny_bind (wpAny_pure (wpAny_throw ?_))
  refine wpAny_bind (wpAny_isInstance (T := "StopIteration") (b := true) ⟨_, Heap.get?_push_size _ rfl, rfl⟩ isSubtype_stop ?_)
  exact wpAny_pure (hq _ fun b o e => Heap.get?_push_of_some _ (Heap.get?_push_of_some _ e))
theorem ci_iter {f se : Value} {en : Bool} {Q : Value → Shared → Prop} (hI : s.heap.get? I = some (ciObj f se en)) (h : Q (.ref I) s) : wpAny (model prog w) A (pyIter (.ref I)) Q E s := by
  refine wpAny_pyIter_slot (T := "callable_iterator") ⟨_, hI, rfl⟩ slot_ci_iter (wpAny_call_entry slot_ci_iter ⟨_, hI, rfl⟩ entry_ci_iter ?_ (args_ci_iter _))
  show wpAny _ _ (do ret (.ref I)) _ _ s
  exact wpAny_pure ⟨_, rfl, "callable_iterator", _, ⟨_, hI, rfl⟩, slot_ci_next.lookup, h⟩
end
theorem method_called : typeLookup (.type "method") (Str.ofString "__call__") = pure (some (.builtin "method.__call__")) := by rw [typeLookup_type, builtinLookup_eq_fast]; kernel_rfl
theorem args_iter2 (a b : Value) : argsOk "iter" ⟨[a, b], []⟩ := by unfold argsOk; kernel_rfl
section
variable {prog : Program} {w : World} {A : Around} {E : Value → Shared → Prop} {s : Shared} {h₀ : Heap} {L M : Addr} {m : Str → Option Value} {news : List (Addr × Obj)} {f self se : Value}
theorem ci_make {Q : Value → Shared → Prop} (F : Fr h₀ L s.heap m) (N : News h₀ L s.heap news) (hM : (M, methodObj f self) ∈ news)
    (h : ∀ (I : Addr) h', Fr h₀ L h' m → News h₀ L h' ((I, ciObj (.ref M) se false) :: news) → (∀ p ∈ news, p.1 < I) → Q (.ref I) { s with heap := h' }) :
    wpAny (model prog w) A (call (.builtin "iter") [.ref M, se]) Q E s := by
  refine call_function_entry (by decide +kernel) (by decide +kernel) kdk_entry_iter (args_iter2 _ _) ?_
  unfold Builtin.«iter»
  refine wpAny_bind (m := someArgs "iter" 1 2 _) (wpAny_of_eq (a := [Value.ref M, se]) (by first | rfl | kernel_rfl!) ?_)
  have ty : s.TypeIs (.ref M) "method" := ⟨_, (N _ hM).1, rfl⟩
  refine wpAny_bind (wpAny_specialOf (T := "method") ty method_called ?_)
  rw [if_neg (by decide)]
  refine wpAny_bind (wpAny_rule ?_)
  refine wpAny_bind (wpAny_newObj_type (wpAny_pure ⟨_, rfl, h _ _ (F.push _) (News.push F N _ rfl) (fun q hq => Heap.lt_size (N q hq).1)⟩) (by size_fits))
end
noncomputable abbrev Rd.own (P : Params) (r : Rd) (I M : Addr) (f se : Value) (en : Bool) (ln : Int) (tl : Tok) (np : Nat) (zs : List Value) (nz : Nat) (tail : List (Addr × Obj)) : List (Addr × Obj) :=
  (I, ciObj f se en) :: (M, methodObj (.ref 56) (.ref r.xr)) :: r.news P ln tl [] np zs nz tail
theorem news_back {h₀ h h' : Heap} {L : Addr} {a b : Addr × Obj} {R R' : List (Addr × Obj)} {mu : List Addr} (N : News h₀ L h (a :: b :: R)) (x : ExtBut mu h h') (ha : a.1 ∉ mu) (hb : b.1 ∉ mu) (N' : News h₀ L h' R') : News h₀ L h' (a :: b :: R') := by
  intro p hp
  rcases List.mem_cons.mp hp with rfl | hp
  · have n := N p (.head _)
    exact ⟨x _ _ ha n.1, n.2⟩
  · rcases List.mem_cons.mp hp with rfl | hp
    · have n := N p (.tail _ (.head _))
      exact ⟨x _ _ hb n.1, n.2⟩
    · exact N' p hp
theorem one_ne (c : Nat) : (⟨#[c]⟩ : Str) ≠ Str.ofString "" := by
  intro e
  have := congrArg (fun x : Str => x.cps.size) e
  have h0 : (Str.ofString "").cps.size = 0 := by decide +kernel
  dsimp only at this
  rw [h0] at this
  cases this
theorem o56_fn : ∃ fd, o56.data = .func fd := ⟨_, rfl⟩
section
variable {w : World} {q : Program} {mean : ExcName → Option Value} {mg mb : Str → Option Value} {loose : List Str} {tail : List (Addr × Obj)} {r : Rd} {ln : Int} {tl ts : Tok} {np nz : Nat} {zl : List Value} {I M : Addr}
  {dp un : Nat} {gd : Option (List Code)} {cn : Str} {cs : Scope} {a : Addr} {ccd : Value} {cl : List (Str × Addr)} {outer : List Env} {A₀ : Around} {base h₀ : Heap} {L : Addr} {m : Str → Option Value} {s : Shared} {E : Value → Shared → Prop}
structure LexAt (r : Rd) (I M : Addr) (tail : List (Addr × Obj)) : Prop where
  ok : r.Ok
  offl : TailOff r.l tail
  offd : TailOff r.dr tail
  ccl : neN' r.cc r.l
  ccd : neN' r.cc r.dr
  il : I ≠ r.l
  idr : I ≠ r.dr
  ml : M ≠ r.l
  md : M ≠ r.dr
theorem g_item {c : Nat} {u : Tok} {Q : Option Value → Shared → Prop} (W : LexAt r I M tail) (hz : zl.length ≤ 1000) (B : Below A₀ base outer h₀) (F : Fr h₀ L s.heap m) (X : (K0 w.params).In h₀)
    (N : News h₀ L s.heap (r.own w.params I M (.ref M) (.str (Str.ofString "") ts) false ln tl np (zl ++ [.str ⟨#[c]⟩ u]) nz tail)) (T : Top q loose mean mg mb h₀) (hk : cs.kind = .function) (hd : dp + 3 < recursionLimit) (hu : un + 1 + 64 * 3 < cLine)
    (h : ∀ ln' tl' h' tk', Fr h₀ L h' m → News h₀ L h' (r.own w.params I M (.ref M) (.str (Str.ofString "") ts) false ln' tl' np zl (nz + 1) tail) → ExtBut [r.l, r.dr] s.heap h' → Q (some (.str ⟨#[c]⟩ u)) { s with heap := h', toks := tk' }) :
    wpAny (model rw_sn0078_01.row.prog w) (ktrTop dp un gd cn cs L a ccd cl outer) (pyNext (.ref I)) Q E s := by
  obtain ⟨fd, hfd⟩ := o56_fn
  have nI : I ∉ [r.l, r.dr] := by simp [W.il, W.idr]
  have nM : M ∉ [r.l, r.dr] := by simp [W.ml, W.md]
  have hI := (N _ (.head _)).1
  have hM := (N _ (.tail _ (.head _))).1
  have Nr : News h₀ L s.heap (r.news w.params ln tl [] np (zl ++ [.str ⟨#[c]⟩ u]) nz tail) := fun p hp => N p (.tail _ (.tail _ hp))
  refine ci_item (u := u) hI hM ((X.keeps F.keep) 56 _ rfl) hfd (one_ne c) ?_
  refine c_readCons w q mean mg mb loose tail r ln tl [] np nz zl c u dp (un + 1) gd cn cs a ccd cl outer A₀ base h₀ L m s (fun v s' => v = .str ⟨#[c]⟩ u ∧ s'.heap.get? I = some _ ∧ Q (some v) s') (fun _ _ => False) B F X Nr T hk ⟨W.ok, hz, W.offl, W.offd, W.ccl, W.ccd⟩ hd hu ?_
  rintro v news' h' tk' ⟨rfl, ln', tl', rfl⟩ F' N' x
  exact ⟨rfl, x _ _ nI hI, h ln' tl' h' tk' F' (news_back N x nI nM N') x⟩
theorem g_end {Q : Option Value → Shared → Prop} (W : LexAt r I M tail) (B : Below A₀ base outer h₀) (F : Fr h₀ L s.heap m) (X : (K0 w.params).In h₀)
    (N : News h₀ L s.heap (r.own w.params I M (.ref M) (.str (Str.ofString "") ts) false ln tl np [] nz tail)) (T : Top q loose mean mg mb h₀) (hk : cs.kind = .function) (hd : dp + 3 < recursionLimit) (hu : un + 1 + 64 * 3 < cLine) (hfresh : ∀ p ∈ r.news w.params ln tl [] np [] nz tail, p.1 ≠ I) (hMI : M ≠ I)
    (h : ∀ h' tk', Fr h₀ L h' m → News h₀ L h' (r.own w.params I M .none .none true ln tl np [] nz tail) → ExtBut [I] s.heap h' → Q none { s with heap := h', toks := tk' }) :
    wpAny (model rw_sn0078_01.row.prog w) (ktrTop dp un gd cn cs L a ccd cl outer) (pyNext (.ref I)) Q E s := by
  obtain ⟨fd, hfd⟩ := o56_fn
  have hI := (N _ (.head _))
  have hM := (N _ (.tail _ (.head _)))
  have Nr : News h₀ L s.heap (r.news w.params ln tl [] np [] nz tail) := fun p hp => N p (.tail _ (.tail _ hp))
  have h56 := (X.keeps F.keep) 56 _ rfl
  have n56 : (56 : Addr) ≠ I := fun e => by
    have := hI.2.2
    rw [← e, X 56 _ rfl] at this; cases this
  refine ci_end rfl hI.1 hM.1 h56 hfd ?_
  refine c_readNil w q mean mg mb loose tail r ln tl [] np nz dp (un + 1) gd cn cs a ccd cl outer A₀ base h₀ L m s (fun v s' => (∃ u, v = .str (Str.ofString "") u) ∧ s'.heap.get? I = some _ ∧ s'.heap.get? M = some _ ∧ s'.heap.get? 56 = some o56 ∧ (∀ h', Heap.ExtBut I s'.heap h' → h'.get? I = some (ciObj .none .none true) → Q none { s' with heap := h' })) (fun _ _ => False) B F X Nr T hk W.ok hd hu ?_
  rintro v news' h' tk' ⟨⟨u, rfl⟩, rfl⟩ F' N' x
  refine ⟨⟨u, rfl⟩, x _ _ (List.not_mem_nil) hI.1, x _ _ (List.not_mem_nil) hM.1, x _ _ (List.not_mem_nil) h56, fun h2 x2 g2 => ?_⟩
  refine h h2 tk' ⟨F'.ns.extBut x2 hI.2.1.symm, fun b o e => x2 b o (fun q => by rw [q, hI.2.2] at e; cases e) (F'.keep b o e), F'.above⟩ (fun p hp => ?_) (fun b o hb e => x2 b o (fun q => hb (q ▸ .head _)) (x b o (List.not_mem_nil) e))
  rcases List.mem_cons.mp hp with rfl | hp
  · exact ⟨g2, hI.2⟩
  · rcases List.mem_cons.mp hp with rfl | hp
    · exact ⟨x2 _ _ hMI (x _ _ (List.not_mem_nil) hM.1), hM.2⟩
    · exact ⟨x2 _ _ (hfresh p hp) (N' p hp).1, (N' p hp).2⟩
theorem g_over {Q : Option Value → Shared → Prop} {zs : List Value} (F : Fr h₀ L s.heap m) (N : News h₀ L s.heap (r.own w.params I M .none .none true ln tl np zs nz tail))
    (h : ∀ h', Fr h₀ L h' m → News h₀ L h' (r.own w.params I M .none .none true ln tl np zs nz tail) → (∀ b o, s.heap.get? b = some o → h'.get? b = some o) → Q none { s with heap := h' }) :
    wpAny (model rw_sn0078_01.row.prog w) (ktrTop dp un gd cn cs L a ccd cl outer) (pyNext (.ref I)) Q E s :=
  ci_over rfl (N _ (.head _)).1 fun h' x => h h' (F.keeps x) (N.grown x) x
theorem g_iter {f se : Value} {en : Bool} {Q : Value → Shared → Prop} {zs : List Value} (N : News h₀ L s.heap (r.own w.params I M f se en ln tl np zs nz tail)) (h : Q (.ref I) s) :
    wpAny (model rw_sn0078_01.row.prog w) (ktrTop dp un gd cn cs L a ccd cl outer) (pyIter (.ref I)) Q E s := ci_iter (N _ (.head _)).1 h
theorem g_readCons {f se : Value} {en : Bool} {c : Nat} {u : Tok} {Q : Value → Shared → Prop} (W : LexAt r I M tail) (hz : zl.length ≤ 1000) (B : Below A₀ base outer h₀) (F : Fr h₀ L s.heap m) (X : (K0 w.params).In h₀)
    (N : News h₀ L s.heap (r.own w.params I M f se en ln tl np (zl ++ [.str ⟨#[c]⟩ u]) nz tail)) (T : Top q loose mean mg mb h₀) (hk : cs.kind = .function) (hd : dp + 3 < recursionLimit) (hu : un + 64 * 3 < cLine)
    (h : ∀ ln' tl' h' tk', Fr h₀ L h' m → News h₀ L h' (r.own w.params I M f se en ln' tl' np zl (nz + 1) tail) → ExtBut [r.l, r.dr] s.heap h' → Q (.str ⟨#[c]⟩ u) { s with heap := h', toks := tk' }) :
    wpAny (model rw_sn0078_01.row.prog w) (ktrTop dp un gd cn cs L a ccd cl outer) (call (.ref 56) [.ref r.xr]) Q E s := by
  have nI : I ∉ [r.l, r.dr] := by simp [W.il, W.idr]
  have nM : M ∉ [r.l, r.dr] := by simp [W.ml, W.md]
  have Nr : News h₀ L s.heap (r.news w.params ln tl [] np (zl ++ [.str ⟨#[c]⟩ u]) nz tail) := fun p hp => N p (.tail _ (.tail _ hp))
  refine wpAny_call (c_readCons w q mean mg mb loose tail r ln tl [] np nz zl c u dp un gd cn cs a ccd cl outer A₀ base h₀ L m s Q E B F X Nr T hk ⟨W.ok, hz, W.offl, W.offd, W.ccl, W.ccd⟩ hd hu ?_)
  rintro v news' h' tk' ⟨rfl, ln', tl', rfl⟩ F' N' x
  exact h ln' tl' h' tk' F' (news_back N x nI nM N') x
theorem g_readNil {f se : Value} {en : Bool} {Q : Value → Shared → Prop} (W : LexAt r I M tail) (B : Below A₀ base outer h₀) (F : Fr h₀ L s.heap m) (X : (K0 w.params).In h₀)
    (N : News h₀ L s.heap (r.own w.params I M f se en ln tl np [] nz tail)) (T : Top q loose mean mg mb h₀) (hk : cs.kind = .function) (hd : dp + 3 < recursionLimit) (hu : un + 64 * 3 < cLine)
    (h : ∀ t h' tk', Fr h₀ L h' m → News h₀ L h' (r.own w.params I M f se en ln tl np [] nz tail) → ExtBut [] s.heap h' → Q (.str (Str.ofString "") t) { s with heap := h', toks := tk' }) :
    wpAny (model rw_sn0078_01.row.prog w) (ktrTop dp un gd cn cs L a ccd cl outer) (call (.ref 56) [.ref r.xr]) Q E s := by
  have Nr : News h₀ L s.heap (r.news w.params ln tl [] np [] nz tail) := fun p hp => N p (.tail _ (.tail _ hp))
  refine wpAny_call (c_readNil w q mean mg mb loose tail r ln tl [] np nz dp un gd cn cs a ccd cl outer A₀ base h₀ L m s Q E B F X Nr T hk W.ok hd hu ?_)
  rintro v news' h' tk' ⟨⟨t, rfl⟩, rfl⟩ F' N' x
  exact h t h' tk' F' (news_back N x (List.not_mem_nil) (List.not_mem_nil) N') x
end
noncomputable def isWs (c : Nat) : Bool := c == 10 || c == 9 || c == 13 || c == 32
noncomputable def lexWord : List Nat → List Nat → List Nat × List Nat
  | acc, [] => (acc, [])
  | acc, c :: cs => bif isWs c then (acc, cs) else bif c == 92 then (match cs with
      | [] => (acc, [])
      | d :: cs => lexWord (acc ++ [d]) cs) else lexWord (acc ++ [c]) cs
noncomputable def lexMarks : List Nat → List Nat → List Nat × List Nat
  | acc, [] => (acc, [])
  | acc, c :: cs => bif c == 34 then (acc, cs) else bif c == 92 then (match cs with
      | [] => (acc, [])
      | d :: cs => lexMarks (acc ++ [d]) cs) else lexMarks (acc ++ [c]) cs
noncomputable def lexTok : List Nat → List Nat × List Nat
  | [] => ([], [])
  | c :: cs => bif isWs c then lexTok cs else bif c == 34 then lexMarks [] cs else bif c == 92 then (match cs with
      | [] => ([], [])
      | d :: cs => lexWord [d] cs) else lexWord [c] cs
local macro_rules | `(tactic| omega) => `(tactic| k_extra "omega")
theorem rg_ConN_1 : True := by
  k_with_none
  (k_with "my_cell_enter" => (refine' code_defG (B := by k_asm) (F := by k_asm) (by k_asm) (N := by k_asm) (T := by k_asm) (hA := by exact rfl) (hf := by exact rfl) (hke := by assumption) (ho := by k_is) (hcd := by k_is) (hroom := by ktr_room) (hbind := by exact BindsTo.of_eq rfl) (hloc := by exact locs rfl) ?_ (hco := by exact rfl) (hgen := by exact rfl) (hk := by exact rfl) (hcell := by decide); k_whole; walk_at "i4bcc05"))
  (k_with "eval Constant int" => (refine constI ?_))
  (k_with "eval Constant str" => (refine constS ?_))
  (k_with "eval Call" => ((show let Q9 := _; wpAny _ _ _ Q9 _ _); intro Q9; refine Call_ ?_))
  (k_with "eval Call Attribute" => ((show let Q9 := _; wpAny _ _ _ Q9 _ _); intro Q9; refine MethodCall_ ?_))
  (k_with "exec If" => ((show let Q9 := _; wpAny _ _ _ Q9 _ _); intro Q9; refine wpAny_If ?_))
  (k_with "exec Assign" => ((show let Q9 := _; wpAny _ _ _ Q9 _ _); intro Q9; refine wpAny_Assign_Name ?_))
  (k_with "exec AugAssign" => ((show let Q9 := _; wpAny _ _ _ Q9 _ _); intro Q9; refine wpAny_AugAssign_Name ?_))
  (k_with "eval BinOp" => ((show let Q9 := _; wpAny _ _ _ Q9 _ _); intro Q9; refine wpAny_BinOp ?_))
  (k_with "eval Compare" => ((show let Q9 := _; wpAny _ _ _ Q9 _ _); intro Q9; refine wpAny_Compare1 ?_))
  (k_with "isTrue Compare" => ((show let Q9 := _; wpAny _ _ _ Q9 _ _); intro Q9; refine wpAny_isTrue_Compare1 ?_))
  (k_with "eval Subscript" => ((show let Q9 := _; wpAny _ _ _ Q9 _ _); intro Q9; refine Subscript_ ?_))
  (k_with "my_k_all" => (exact TailOff.ne (by assumption)))
  (k_with "my_k_all" => (exact allLt_ne (by assumption)))
  (k_with "a" => (with_reducible assumption))
  (k_with "cn" => (first | k_extra "a" | (apply And.right; first | k_extra "a" | (apply And.right; first | k_extra "a" | (apply And.right; first | k_extra "a" | (apply And.right; first | k_extra "a" | (apply And.right; first | k_extra "a" | (apply And.right; first | k_extra "a" | (apply And.right; first | k_extra "a" | (apply And.right; first | k_extra "a" | (apply And.right; first | k_extra "a" | (apply And.right; first | k_extra "a" | (apply And.right; first | k_extra "a" | (apply And.right; first | k_extra "a" | (apply And.right; k_extra "a")))))))))))))))
  (k_with "cj" => (first | k_extra "cn" | (apply And.left; k_extra "cn")))
  (k_with "lt" => ((first | (with_reducible show @LT.lt Nat _ _ _) | (with_reducible show @LE.le Nat _ _ _)); first | k_extra "cj" | (with_reducible refine Nat.lt_of_succ_lt ?_; k_extra "cj") | (with_reducible refine Nat.le_of_lt ?_; first | k_extra "cj" | (refine Nat.lt_of_succ_lt ?_; k_extra "cj")) | (with_reducible refine Nat.lt_trans ?_ (by with_reducible assumption); k_extra "lt")))
  (k_with "lt0" => (first | with_reducible exact Nat.lt_succ_self _ | with_reducible assumption | (with_reducible refine Nat.lt_succ_of_lt ?_; k_extra "lt0")))
  (k_with "my_k_ne" => (refine neN ?_; (try dsimp only); first | (refine Nat.ne_of_lt ?_; k_extra "lt0") | (refine Nat.ne_of_gt ?_; k_extra "lt0") | (refine Nat.ne_of_lt ?_; k_extra "lt") | (refine Nat.ne_of_gt ?_; k_extra "lt")))
  (k_with "callWith ref" => (k_here; k_dflt (first   | (refine' callWith_F (_X := by exact FnAt.of (by k_asm) (by k_mem)) ?_; k_whole)   | (refine' callWith_F0 (X := by exact FnAt.of (by k_asm) (by k_mem)) ?_; k_whole; try dsimp only [List.nil_append, List.cons_append]))))
  (k_with "eval Name" => (k_here; (fail_if_success (with_reducible show wpAny _ _ (eval _ (compEnvC _ _ _ _)) _ _ _)); k_dflt (refine' nameX_F (N := by k_asm) (hc := by rfl) (hm := by k_mem) (hd := by k_asm) ?_ (hk := by rfl) (hx := by rfl); k_whole)))
  (k_with "truthy ref" => (k_here; (with_reducible show wpAny _ _ (truthy (Value.ref _)) _ _ _); k_dflt (refine' truthyNil (N := by k_asm) (hm := by k_mem) ?_; k_whole)))
  (k_with "truthy ref" => (k_here; (with_reducible show wpAny _ _ (truthy (Value.ref _)) _ _ _); k_dflt (refine' truthySnoc (N := by k_asm) (hm := by k_mem) (hz := by assumption) ?_; k_whole)))
  (k_with "truthy ref" => (k_here; (with_reducible show wpAny _ _ (truthy (Value.ref _)) _ _ _); k_dflt (refine' truthyCons (N := by k_asm) (hm := by k_mem) (hz := by assumption) ?_; k_whole)))
  (k_with "omega" => (first | k_extra "lt"))
  (k_with "i4bcc05" => (intro g' L' h' FG' F' N' B' X' T' GS'; (try dsimp only); (try k_lift B'); (try k_fold)))
  (k_with "call ref" => (k_here; k_dflt (refine wpAny_call ?_; (refine' kla_code ?k1 ?k2 ?k3 ?k4 ?k5 ?kA ?kF ?kK ?k6 ?k7 ?k8 ?k9 ?kB ?_ ?c2 ?c3 ?c4 ?c5; (case kA => exact rfl); (case kF => exact rfl); (case kK => first | exact rfl | assumption); (case k1 => k_asm); (case k2 => k_asm); (case k3 => k_asm); (case k4 => k_asm); (case k5 => k_asm); (case k6 => k_mem); (case k7 => exact codeRec_news (by k_asm) (by k_mem) (by assumption) (by assumption)); (case k8 => first | ktr_room | k_room); (case k9 => exact rfl); (case c5 => decide); (case kB => exact locs rfl); (case c2 => exact rfl); (case c3 => exact rfl); (case c4 => exact rfl); k_whole; intro g' L' h' FG' F' N' B' X' T'; (try dsimp only); (try k_lift B'); (try k_fold)))))
  (k_with "call builtin:list.pop" => (k_here; k_dflt ((with_reducible show wpAny _ _ (call (Value.builtin _) [Value.ref _]) _ _ _); refine' kl_pop ?F ?N ?e ?U ?z ?_; (case F => k_asm); (case N => k_asm); (case U => k_upd); (case e => exact kl_last_snoc _ _); (case z => exact snoc_room (by assumption))); kl_rest))
  (k_with "call builtin:list.pop" => (k_here; k_dflt ((with_reducible show wpAny _ _ (call (Value.builtin _) [Value.ref _, Value.int _ _]) _ _ _); refine' kl_popAt (p := []) (k := 0) ?F ?N ?f ?k ?e ?U ?z ?_; (case F => k_asm); (case N => k_asm); (case U => k_upd); (case f => rfl); (case k => exact cons_idx _ _); (case e => exact rfl); (case z => exact cons_room (by assumption))); kl_rest))
  trivial
noncomputable def valsOf (cs : List (Nat × Tok)) : List Value := cs.map fun c => .str ⟨#[c.1]⟩ c.2
noncomputable def wordAt : Option (PySem.Expr × List Stmt × Scope) := match methAt 2 with
  | some (_, _, b, sc) => (match b[(3 : Nat)]? with
    | some (.For _ _ fb _ _) => (match fb[(1 : Nat)]? with
      | some (.If _ _ orelse _) => (match orelse[(2 : Nat)]? with
        | some (.For t _ wb _ _) => some (t, wb, sc)
        | _ => none)
      | _ => none)
    | _ => none)
  | _ => none
theorem rg_ConN_8 : True := by
  (k_with "eval Name" => (k_here; (fail_if_success (with_reducible show wpAny _ _ (eval _ (compEnvC _ _ _ _)) _ _ _)); k_dflt (refine' nameX_L2 (hx := by rfl) (hk := by rfl) (hd := by rfl) (F := by k_asm) (hv := by (first | exact rfl | assumption | ((repeat refine (if_neg (by decide)).trans ?_); first | assumption | exact if_pos rfl))) ?_; k_whole)))
  trivial
section
variable {M : Model} {A : Around} {E : Value → Shared → Prop} {s : Shared} {h₀ : Heap} {L a : Addr} {m : Str → Option Value} {cn : Str} {cs : Scope} {ccd : Value} {cl : List (Str × Addr)} {x : Str} {v : Value} {Q : Value → Shared → Prop}
theorem loadX_L (F : Fr h₀ L s.heap m) (hv : m x = some v) (h : Q v s) (hk : cs.kind = .function := by rfl) (hx : (envX cn cs L a ccd cl).kindOf x = some .local := by rfl) : wpAny M A (loadName (envX cn cs L a ccd cl) x) Q E s := wpAny_loadName_local hk hx F.ns hv h
end
theorem str_app (acc e : List Nat) : ((⟨acc.toArray⟩ : Str) ++ (⟨e.toArray⟩ : Str)) = ⟨(acc ++ e).toArray⟩ := by
  show Str.mk _ = Str.mk _
  congr 1
  simp
theorem iaddE {prog : Program} {w : World} {A : Around} {E : Value → Shared → Prop} {s : Shared} {acc e : List Nat} {t u : Tok} {Q : Value → Shared → Prop} (hz : acc.length ≤ 1000) (he : e.length ≤ 1)
    (h : ∀ t' tk, Q (.str ⟨(acc ++ e).toArray⟩ t') { s with toks := tk }) : wpAny (model prog w) A (inplaceOp .Add (.str ⟨acc.toArray⟩ t) (.str ⟨e.toArray⟩ u)) Q E s := by
  refine PyProof.Rows.iadd_str (fun t' tk => ?_) ?_
  · rw [str_app]; exact h t' tk
  · rw [sizeLine_eq]
    have e1 : (⟨acc.toArray⟩ : Str).length = acc.length := by simp [Str.length]
    have e2 : (⟨e.toArray⟩ : Str).length = e.length := by simp [Str.length]
    rw [e1, e2]; omega
theorem rg_ConN_9 : True := by
  (k_with "inplaceOp Add str str" => (k_here; k_dflt (refine' iaddE (hz := by assumption) (he := by first | assumption | exact Nat.le_refl 1) ?_); intro _ _))
  (k_with "loadName" => (k_here; k_dflt (refine' loadX_L (F := by k_asm) (hv := by (first | exact rfl | assumption | ((repeat refine (if_neg (by decide)).trans ?_); first | assumption | exact if_pos rfl))) ?_ (hk := by rfl) (hx := by rfl); k_whole)))
  trivial
noncomputable def readOf : List (Nat × Tok) → List Nat × List (Nat × Tok)
  | [] => ([], [])
  | d :: cs => ([d.1], cs)
theorem readOf_le (cs : List (Nat × Tok)) : (readOf cs).1.length ≤ 1 := by cases cs <;> simp [readOf]
theorem emp_str : Str.ofString "" = ⟨([] : List Nat).toArray⟩ := by decide +kernel
theorem vals_rev (c : Nat × Tok) (cs : List (Nat × Tok)) : (valsOf (c :: cs)).reverse = (valsOf cs).reverse ++ [.str ⟨#[c.1]⟩ c.2] := by simp [valsOf]
theorem vals_len (cs : List (Nat × Tok)) : (valsOf cs).reverse.length = cs.length := by simp [valsOf]
section
variable {w : World} {q : Program} {mean : ExcName → Option Value} {mg mb : Str → Option Value} {loose : List Str} {tail : List (Addr × Obj)} {r : Rd} {ln : Int} {tl : Tok} {np nz : Nat} {I M : Addr}
  {dp un : Nat} {gd : Option (List Code)} {cn : Str} {cs : Scope} {a : Addr} {ccd : Value} {cl : List (Str × Addr)} {outer : List Env} {A₀ : Around} {base h₀ : Heap} {L : Addr} {m : Str → Option Value} {s : Shared} {E : Value → Shared → Prop}
theorem g_read {f se : Value} {en : Bool} {zs : List (Nat × Tok)} {Q : Value → Shared → Prop} (F : Fr h₀ L s.heap m)
    (N : News h₀ L s.heap ((I, ciObj f se en) :: (M, methodObj (.ref 56) (.ref r.xr)) :: (r.pr, listOf [].toArray np) :: (r.xr, instObj 73 r.dr) :: (r.dr, r.lex w.params ln tl) :: (r.f, lamObj r.cL r.cc r.pm r.ctv) :: (r.cc, r.oc) :: (r.ps, listOf #[] 0) :: (r.xs, instObj 73 r.ds) :: (r.ds, r.str w.params) :: (r.l, listOf (valsOf zs).reverse.toArray nz) :: (r.cL, r.oC) :: tail))
    (W : LexAt r I M tail) (hz : zs.length ≤ 1000) (B : Below A₀ base outer h₀) (X : (K0 w.params).In h₀) (T : Top q loose mean mg mb h₀) (hk : cs.kind = .function) (hd : dp + 3 < recursionLimit) (hu : un + 64 * 3 < cLine)
    (h : ∀ e zs' t nz' ln' tl' h' tk', (e, zs') = readOf zs → e.length ≤ 1 → Fr h₀ L h' m → News h₀ L h' ((I, ciObj f se en) :: (M, methodObj (.ref 56) (.ref r.xr)) :: (r.pr, listOf [].toArray np) :: (r.xr, instObj 73 r.dr) :: (r.dr, r.lex w.params ln' tl') :: (r.f, lamObj r.cL r.cc r.pm r.ctv) :: (r.cc, r.oc) :: (r.ps, listOf #[] 0) :: (r.xs, instObj 73 r.ds) :: (r.ds, r.str w.params) :: (r.l, listOf (valsOf zs').reverse.toArray nz') :: (r.cL, r.oC) :: tail) → ExtBut [r.l, r.dr] s.heap h' → Q (.str ⟨e.toArray⟩ t) { s with heap := h', toks := tk' }) :
    wpAny (model rw_sn0078_01.row.prog w) (ktrTop dp un gd cn cs L a ccd cl outer) (call (.ref 56) [.ref r.xr]) Q E s := by
  cases zs with
  | nil =>
    refine g_readNil (f := f) (se := se) (en := en) (ln := ln) (tl := tl) (np := np) (nz := nz) W B F X N T hk hd hu fun t h' tk' F' N' x => ?_
    rw [emp_str]
    exact h [] [] t nz ln tl h' tk' rfl (by decide) F' N' (fun b o _ e => x b o (List.not_mem_nil) e)
  | cons c zs =>
    refine g_readCons (zl := (valsOf zs).reverse) (c := c.1) (u := c.2) (f := f) (se := se) (en := en) (ln := ln) (tl := tl) (np := np) (nz := nz) W (by rw [vals_len]; simp at hz; omega) B F X (by rw [← vals_rev]; exact N) T hk hd hu fun ln' tl' h' tk' F' N' x => ?_
    exact h [c.1] zs c.2 (nz + 1) ln' tl' h' tk' rfl (Nat.le_refl 1) F' N' x
end
theorem rg_ConN_11 : True := by
  (k_with "call ref" => (k_here; k_dflt ((try dsimp only [List.nil_append, List.cons_append]); (with_reducible show wpAny _ _ (call (Value.ref 56) [Value.ref _]) _ _ _); refine' g_read (F := by k_asm) (N := by k_asm) (W := by assumption) (hz := by assumption) (B := by k_asm) (X := by k_asm) (T := by k_asm) (hk := by first | exact rfl | assumption) (hd := by first | assumption | ktr_room) (hu := by first | assumption | ktr_room) ?_); intro _ _ _ _ _ _ _ _ _ _ _ _ _))
  trivial
inductive Tk (w : World) (r : Rd) (I M : Addr) (tail : List (Addr × Obj)) (np : Nat) (h₀ : Heap) (L : Addr) (f se : Value) (en : Bool) (zs : List (Nat × Tok)) (acc : List Nat) (s0 s : Shared) : Prop
  | mk (ln : Int) (tl : Tok) (nz : Nat) (m : Str → Option Value) (h : Heap) (tk : Nat) : (s = { s0 with heap := h, toks := tk }) → (Fr h₀ L h m) → (News h₀ L h ((I, ciObj f se en) :: (M, methodObj (.ref 56) (.ref r.xr)) :: (r.pr, listOf [].toArray np) :: (r.xr, instObj 73 r.dr) :: (r.dr, r.lex w.params ln tl) :: (r.f, lamObj r.cL r.cc r.pm r.ctv) :: (r.cc, r.oc) :: (r.ps, listOf #[] 0) :: (r.xs, instObj 73 r.ds) :: (r.ds, r.str w.params) :: (r.l, listOf (valsOf zs).reverse.toArray nz) :: (r.cL, r.oC) :: tail)) → (m (Str.ofString "self") = some (.ref r.xr)) → ((∃ tt, m (Str.ofString "token") = some (.str ⟨acc.toArray⟩ tt))) → (m (Str.ofString "fiter") = some (.ref I)) → Tk w r I M tail np h₀ L f se en zs acc s0 s
theorem ws_occ (c : Nat) : (Builtin.Str.occurrences (Str.ofString "\n\t\r ") ⟨#[c]⟩ 0 (Str.ofString "\n\t\r ").length 1).isEmpty = !isWs c := by
  rw [show (Str.ofString "\n\t\r ") = ⟨#[10, 9, 13, 32]⟩ from by decide +kernel, empty_one]
  unfold isWs
  congr 1
  rw [Bool.eq_iff_iff]
  simp [or_assoc]
theorem eq_slash (c : Nat) : ((⟨#[c]⟩ : Str) == Str.ofString "\\") = (c == 92) := by
  rw [show (Str.ofString "\\") = ⟨#[92]⟩ from by decide +kernel, Bool.eq_iff_iff]
  simp
noncomputable def WordNext (c : Nat) (zs : List (Nat × Tok)) (acc : List Nat) (zs' : List (Nat × Tok)) (acc' : List Nat) : Prop :=
  isWs c = false ∧ ((∃ e, (c == 92) = true ∧ (e, zs') = readOf zs ∧ acc' = acc ++ e) ∨ ((c == 92) = false ∧ zs' = zs ∧ acc' = acc ++ [c]))
set_option maxHeartbeats 4000000 in
theorem word_turn {w : World} {q : Program} {mean : ExcName → Option Value} {mg mb : Str → Option Value} {loose : List Str} {tail : List (Addr × Obj)} {r : Rd} {ln : Int} {tl ts : Tok} {np nz : Nat} {I M : Addr}
  {dp un : Nat} {gd : Option (List Code)} {outer : List Env} {A₀ : Around} {base h₀ : Heap} {L : Addr} {m : Str → Option Value} {s : Shared} {t : PySem.Expr} {wb : List Stmt} {sc : Scope} {Q : Flow → Shared → Prop} {E : Value → Shared → Prop}
  (hb : wordAt = some (t, wb, sc)) (W : LexAt r I M tail) (B : Below A₀ base outer h₀) (F : Fr h₀ L s.heap m) (X : (K0 w.params).In h₀) (zs : List (Nat × Tok)) (hzs : zs.length ≤ 1000) (c : Nat) (u : Tok) (acc : List Nat) (tt : Tok) (hacc : acc.length ≤ 1000)
  (N : News h₀ L s.heap (r.own w.params I M (.ref M) (.str (Str.ofString "") ts) false ln tl np (valsOf zs).reverse nz tail)) (T : Top q loose mean mg mb h₀) (hd : dp + 3 < recursionLimit) (hu : un + 1 + 64 * 3 < cLine)
  (m1 : m (Str.ofString "self") = some (.ref r.xr)) (m2 : m (Str.ofString "token") = some (.str ⟨acc.toArray⟩ tt)) (m3 : m (Str.ofString "fiter") = some (.ref I))
  (hN : ∀ zs' acc' s', WordNext c zs acc zs' acc' → Tk w r I M tail np h₀ L (.ref M) (.str (Str.ofString "") ts) false zs' acc' s s' → Q .next s')
  (hR : ∀ t' s', isWs c = true → Tk w r I M tail np h₀ L (.ref M) (.str (Str.ofString "") ts) false zs acc s s' → Q (.ret (.str ⟨acc.toArray⟩ t')) s') :
    wpAny (model rw_sn0078_01.row.prog w) (ktrTop dp un gd (Str.ofString "_netrclex.get_token") sc L 63 (.ref 62) [] outer) (assign t (envX (Str.ofString "_netrclex.get_token") sc L 63 (.ref 62) []) (.str ⟨#[c]⟩ u))
      (fun _ s₂ => wpAny (model rw_sn0078_01.row.prog w) (ktrTop dp un gd (Str.ofString "_netrclex.get_token") sc L 63 (.ref 62) [] outer) (execs wb (envX (Str.ofString "_netrclex.get_token") sc L 63 (.ref 62) [])) Q E s₂) E s := by
  revert X; k_fill; intro X
  have hl : wordAt = some (_, _, _) := rfl
  have e := hb.symm.trans hl
  clear hl hb
  injection e with e
  injection e with e1 e2
  injection e2 with e2 e3
  subst e1 e2 e3
  have W0 := W
  have hu0 : un + 64 * 3 < cLine := by omega
  obtain ⟨⟨oc1, oc2, oc3, o1, o2, o3, o4, o5, o6, o7, o8⟩, hf1, hf2, n1, n2, n3, n4, n5, n6⟩ := W
  dsimp only [Rd.own, Rd.news] at N
  refine wpAny_assign_Name ?_
  k_steps
  all_goals (try dsimp only)
  all_goals first
    | refine' hR _ _ (Bool.not_eq_false' _ |>.mp ((ws_occ c).symm.trans (by assumption))) ⟨_, _, _, _, _, _, rfl, by assumption, by assumption, ?_, ?_, ?_⟩
    | refine' hN _ _ _ ⟨Bool.not_eq_true' _ |>.mp ((ws_occ c).symm.trans (by assumption)), .inl ⟨_, (eq_slash c).symm.trans (by assumption), by assumption, rfl⟩⟩ ⟨_, _, _, _, _, _, rfl, by assumption, by assumption, ?_, ?_, ?_⟩
    | refine' hN _ _ _ ⟨Bool.not_eq_true' _ |>.mp ((ws_occ c).symm.trans (by assumption)), .inr ⟨(eq_slash c).symm.trans (by assumption), rfl, rfl⟩⟩ ⟨_, _, _, _, _, _, rfl, by assumption, by assumption, ?_, ?_, ?_⟩
  all_goals first
    | exact (if_neg (by decide)).trans m1
    | exact ⟨_, (if_neg (by decide)).trans m2⟩
    | exact (if_neg (by decide)).trans m3
    | exact ⟨_, if_pos rfl⟩
    | exact (if_neg (by decide)).trans ((if_neg (by decide)).trans m1)
    | exact (if_neg (by decide)).trans ((if_neg (by decide)).trans m3)
    | exact (if_neg (by decide)).trans ((if_neg (by decide)).trans ((if_neg (by decide)).trans m1))
    | exact (if_neg (by decide)).trans ((if_neg (by decide)).trans ((if_neg (by decide)).trans m3))
theorem rg_ConP_1 : True := by
  k_with_none
  (k_with "my_cell_enter" => (refine' code_defG (B := by k_asm) (F := by k_asm) (by k_asm) (N := by k_asm) (T := by k_asm) (hA := by exact rfl) (hf := by exact rfl) (hke := by assumption) (ho := by k_is) (hcd := by k_is) (hroom := by ktr_room) (hbind := by exact BindsTo.of_eq rfl) (hloc := by exact locs rfl) ?_ (hco := by exact rfl) (hgen := by exact rfl) (hk := by exact rfl) (hcell := by decide); k_whole; walk_at "i4bcc05"))
  (k_with "eval Constant int" => (refine constI ?_))
  (k_with "eval Constant str" => (refine constS ?_))
  (k_with "eval Call" => ((show let Q9 := _; wpAny _ _ _ Q9 _ _); intro Q9; refine Call_ ?_))
  (k_with "eval Call Attribute" => ((show let Q9 := _; wpAny _ _ _ Q9 _ _); intro Q9; refine MethodCall_ ?_))
  (k_with "exec If" => ((show let Q9 := _; wpAny _ _ _ Q9 _ _); intro Q9; refine wpAny_If ?_))
  (k_with "exec Assign" => ((show let Q9 := _; wpAny _ _ _ Q9 _ _); intro Q9; refine wpAny_Assign_Name ?_))
  (k_with "exec AugAssign" => ((show let Q9 := _; wpAny _ _ _ Q9 _ _); intro Q9; refine wpAny_AugAssign_Name ?_))
  (k_with "eval BinOp" => ((show let Q9 := _; wpAny _ _ _ Q9 _ _); intro Q9; refine wpAny_BinOp ?_))
  (k_with "eval Compare" => ((show let Q9 := _; wpAny _ _ _ Q9 _ _); intro Q9; refine wpAny_Compare1 ?_))
  (k_with "isTrue Compare" => ((show let Q9 := _; wpAny _ _ _ Q9 _ _); intro Q9; refine wpAny_isTrue_Compare1 ?_))
  (k_with "eval Subscript" => ((show let Q9 := _; wpAny _ _ _ Q9 _ _); intro Q9; refine Subscript_ ?_))
  (k_with "my_k_all" => (exact TailOff.ne (by assumption)))
  (k_with "my_k_all" => (exact allLt_ne (by assumption)))
  (k_with "a" => (with_reducible assumption))
  (k_with "cn" => (first | k_extra "a" | (apply And.right; first | k_extra "a" | (apply And.right; first | k_extra "a" | (apply And.right; first | k_extra "a" | (apply And.right; first | k_extra "a" | (apply And.right; first | k_extra "a" | (apply And.right; first | k_extra "a" | (apply And.right; first | k_extra "a" | (apply And.right; first | k_extra "a" | (apply And.right; first | k_extra "a" | (apply And.right; first | k_extra "a" | (apply And.right; first | k_extra "a" | (apply And.right; first | k_extra "a" | (apply And.right; k_extra "a")))))))))))))))
  (k_with "cj" => (first | k_extra "cn" | (apply And.left; k_extra "cn")))
  (k_with "lt" => ((first | (with_reducible show @LT.lt Nat _ _ _) | (with_reducible show @LE.le Nat _ _ _)); first | k_extra "cj" | (with_reducible refine Nat.lt_of_succ_lt ?_; k_extra "cj") | (with_reducible refine Nat.le_of_lt ?_; first | k_extra "cj" | (refine Nat.lt_of_succ_lt ?_; k_extra "cj")) | (with_reducible refine Nat.lt_trans ?_ (by with_reducible assumption); k_extra "lt")))
  (k_with "lt0" => (first | with_reducible exact Nat.lt_succ_self _ | with_reducible assumption | (with_reducible refine Nat.lt_succ_of_lt ?_; k_extra "lt0")))
  (k_with "my_k_ne" => (refine neN ?_; (try dsimp only); first | (refine Nat.ne_of_lt ?_; k_extra "lt0") | (refine Nat.ne_of_gt ?_; k_extra "lt0") | (refine Nat.ne_of_lt ?_; k_extra "lt") | (refine Nat.ne_of_gt ?_; k_extra "lt")))
  (k_with "callWith ref" => (k_here; k_dflt (first   | (refine' callWith_F (_X := by exact FnAt.of (by k_asm) (by k_mem)) ?_; k_whole)   | (refine' callWith_F0 (X := by exact FnAt.of (by k_asm) (by k_mem)) ?_; k_whole; try dsimp only [List.nil_append, List.cons_append]))))
  (k_with "eval Name" => (k_here; (fail_if_success (with_reducible show wpAny _ _ (eval _ (compEnvC _ _ _ _)) _ _ _)); k_dflt (refine' nameX_F (N := by k_asm) (hc := by rfl) (hm := by k_mem) (hd := by k_asm) ?_ (hk := by rfl) (hx := by rfl); k_whole)))
  (k_with "truthy ref" => (k_here; (with_reducible show wpAny _ _ (truthy (Value.ref _)) _ _ _); k_dflt (refine' truthyNil (N := by k_asm) (hm := by k_mem) ?_; k_whole)))
  (k_with "truthy ref" => (k_here; (with_reducible show wpAny _ _ (truthy (Value.ref _)) _ _ _); k_dflt (refine' truthySnoc (N := by k_asm) (hm := by k_mem) (hz := by assumption) ?_; k_whole)))
  (k_with "truthy ref" => (k_here; (with_reducible show wpAny _ _ (truthy (Value.ref _)) _ _ _); k_dflt (refine' truthyCons (N := by k_asm) (hm := by k_mem) (hz := by assumption) ?_; k_whole)))
  (k_with "eval Name" => (k_here; (fail_if_success (with_reducible show wpAny _ _ (eval _ (compEnvC _ _ _ _)) _ _ _)); k_dflt (refine' nameX_L2 (hx := by rfl) (hk := by rfl) (hd := by rfl) (F := by k_asm) (hv := by (first | exact rfl | assumption | ((repeat refine (if_neg (by decide)).trans ?_); first | assumption | exact if_pos rfl))) ?_; k_whole)))
  (k_with "inplaceOp Add str str" => (k_here; k_dflt (refine' iaddE (hz := by assumption) (he := by first | assumption | exact Nat.le_refl 1) ?_); intro _ _))
  (k_with "loadName" => (k_here; k_dflt (refine' loadX_L (F := by k_asm) (hv := by (first | exact rfl | assumption | ((repeat refine (if_neg (by decide)).trans ?_); first | assumption | exact if_pos rfl))) ?_ (hk := by rfl) (hx := by rfl); k_whole)))
  (k_with "call ref" => (k_here; k_dflt ((try dsimp only [List.nil_append, List.cons_append]); (with_reducible show wpAny _ _ (call (Value.ref 56) [Value.ref _]) _ _ _); refine' g_read (F := by k_asm) (N := by k_asm) (W := by assumption) (hz := by assumption) (B := by k_asm) (X := by k_asm) (T := by k_asm) (hk := by first | exact rfl | assumption) (hd := by first | assumption | ktr_room) (hu := by first | assumption | ktr_room) ?_); intro _ _ _ _ _ _ _ _ _ _ _ _ _))
  (k_with "omega" => (first | k_extra "lt"))
  (k_with "i4bcc05" => (intro g' L' h' FG' F' N' B' X' T' GS'; (try dsimp only); (try k_lift B'); (try k_fold)))
  (k_with "call ref" => (k_here; k_dflt (refine wpAny_call ?_; (refine' kla_code ?k1 ?k2 ?k3 ?k4 ?k5 ?kA ?kF ?kK ?k6 ?k7 ?k8 ?k9 ?kB ?_ ?c2 ?c3 ?c4 ?c5; (case kA => exact rfl); (case kF => exact rfl); (case kK => first | exact rfl | assumption); (case k1 => k_asm); (case k2 => k_asm); (case k3 => k_asm); (case k4 => k_asm); (case k5 => k_asm); (case k6 => k_mem); (case k7 => exact codeRec_news (by k_asm) (by k_mem) (by assumption) (by assumption)); (case k8 => first | ktr_room | k_room); (case k9 => exact rfl); (case c5 => decide); (case kB => exact locs rfl); (case c2 => exact rfl); (case c3 => exact rfl); (case c4 => exact rfl); k_whole; intro g' L' h' FG' F' N' B' X' T'; (try dsimp only); (try k_lift B'); (try k_fold)))))
  (k_with "call builtin:list.pop" => (k_here; k_dflt ((with_reducible show wpAny _ _ (call (Value.builtin _) [Value.ref _]) _ _ _); refine' kl_pop ?F ?N ?e ?U ?z ?_; (case F => k_asm); (case N => k_asm); (case U => k_upd); (case e => exact kl_last_snoc _ _); (case z => exact snoc_room (by assumption))); kl_rest))
  (k_with "call builtin:list.pop" => (k_here; k_dflt ((with_reducible show wpAny _ _ (call (Value.builtin _) [Value.ref _, Value.int _ _]) _ _ _); refine' kl_popAt (p := []) (k := 0) ?F ?N ?f ?k ?e ?U ?z ?_; (case F => k_asm); (case N => k_asm); (case U => k_upd); (case f => rfl); (case k => exact cons_idx _ _); (case e => exact rfl); (case z => exact cons_room (by assumption))); kl_rest))
  trivial
theorem eq_quote (c : Nat) : ((⟨#[c]⟩ : Str) == Str.ofString "\"") = (c == 34) := by
  rw [show (Str.ofString "\"") = ⟨#[34]⟩ from by decide +kernel, Bool.eq_iff_iff]
  simp
noncomputable def markAt : Option (PySem.Expr × List Stmt × Scope) := match methAt 2 with
  | some (_, _, b, sc) => (match b[(3 : Nat)]? with
    | some (.For _ _ fb _ _) => (match fb[(1 : Nat)]? with
      | some (.If _ body _ _) => (match body[(0 : Nat)]? with
        | some (.For t _ wb _ _) => some (t, wb, sc)
        | _ => none)
      | _ => none)
    | _ => none)
  | _ => none
noncomputable def MarkNext (c : Nat) (zs : List (Nat × Tok)) (acc : List Nat) (zs' : List (Nat × Tok)) (acc' : List Nat) : Prop :=
  (c == 34) = false ∧ ((∃ e, (c == 92) = true ∧ (e, zs') = readOf zs ∧ acc' = acc ++ e) ∨ ((c == 92) = false ∧ zs' = zs ∧ acc' = acc ++ [c]))
set_option maxHeartbeats 4000000 in
theorem mark_turn {w : World} {q : Program} {mean : ExcName → Option Value} {mg mb : Str → Option Value} {loose : List Str} {tail : List (Addr × Obj)} {r : Rd} {ln : Int} {tl ts : Tok} {np nz : Nat} {I M : Addr}
  {dp un : Nat} {gd : Option (List Code)} {outer : List Env} {A₀ : Around} {base h₀ : Heap} {L : Addr} {m : Str → Option Value} {s : Shared} {t : PySem.Expr} {wb : List Stmt} {sc : Scope} {Q : Flow → Shared → Prop} {E : Value → Shared → Prop}
  (hb : markAt = some (t, wb, sc)) (W : LexAt r I M tail) (B : Below A₀ base outer h₀) (F : Fr h₀ L s.heap m) (X : (K0 w.params).In h₀) (zs : List (Nat × Tok)) (hzs : zs.length ≤ 1000) (c : Nat) (u : Tok) (acc : List Nat) (tt : Tok) (hacc : acc.length ≤ 1000)
  (N : News h₀ L s.heap (r.own w.params I M (.ref M) (.str (Str.ofString "") ts) false ln tl np (valsOf zs).reverse nz tail)) (T : Top q loose mean mg mb h₀) (hd : dp + 3 < recursionLimit) (hu : un + 1 + 64 * 3 < cLine)
  (m1 : m (Str.ofString "self") = some (.ref r.xr)) (m2 : m (Str.ofString "token") = some (.str ⟨acc.toArray⟩ tt)) (m3 : m (Str.ofString "fiter") = some (.ref I))
  (hN : ∀ zs' acc' s', MarkNext c zs acc zs' acc' → Tk w r I M tail np h₀ L (.ref M) (.str (Str.ofString "") ts) false zs' acc' s s' → Q .next s')
  (hR : ∀ t' s', (c == 34) = true → Tk w r I M tail np h₀ L (.ref M) (.str (Str.ofString "") ts) false zs acc s s' → Q (.ret (.str ⟨acc.toArray⟩ t')) s') :
    wpAny (model rw_sn0078_01.row.prog w) (ktrTop dp un gd (Str.ofString "_netrclex.get_token") sc L 63 (.ref 62) [] outer) (assign t (envX (Str.ofString "_netrclex.get_token") sc L 63 (.ref 62) []) (.str ⟨#[c]⟩ u))
      (fun _ s₂ => wpAny (model rw_sn0078_01.row.prog w) (ktrTop dp un gd (Str.ofString "_netrclex.get_token") sc L 63 (.ref 62) [] outer) (execs wb (envX (Str.ofString "_netrclex.get_token") sc L 63 (.ref 62) [])) Q E s₂) E s := by
  revert X; k_fill; intro X
  have hl : markAt = some (_, _, _) := rfl
  have e := hb.symm.trans hl
  clear hl hb
  injection e with e
  injection e with e1 e2
  injection e2 with e2 e3
  subst e1 e2 e3
  have W0 := W
  have hu0 : un + 64 * 3 < cLine := by omega
  obtain ⟨⟨oc1, oc2, oc3, o1, o2, o3, o4, o5, o6, o7, o8⟩, hf1, hf2, n1, n2, n3, n4, n5, n6⟩ := W
  dsimp only [Rd.own, Rd.news] at N
  refine wpAny_assign_Name ?_
  k_steps
  all_goals (try dsimp only)
  all_goals first
    | refine' hR _ _ ((eq_quote c).symm.trans (by assumption)) ⟨_, _, _, _, _, _, rfl, by assumption, by assumption, ?_, ?_, ?_⟩
    | refine' hN _ _ _ ⟨(eq_quote c).symm.trans (by assumption), .inl ⟨_, (eq_slash c).symm.trans (by assumption), by assumption, rfl⟩⟩ ⟨_, _, _, _, _, _, rfl, by assumption, by assumption, ?_, ?_, ?_⟩
    | refine' hN _ _ _ ⟨(eq_quote c).symm.trans (by assumption), .inr ⟨(eq_slash c).symm.trans (by assumption), rfl, rfl⟩⟩ ⟨_, _, _, _, _, _, rfl, by assumption, by assumption, ?_, ?_, ?_⟩
  all_goals first
    | exact (if_neg (by decide)).trans m1
    | exact ⟨_, (if_neg (by decide)).trans m2⟩
    | exact (if_neg (by decide)).trans m3
    | exact ⟨_, if_pos rfl⟩
    | exact (if_neg (by decide)).trans ((if_neg (by decide)).trans m1)
    | exact (if_neg (by decide)).trans ((if_neg (by decide)).trans m3)
    | exact (if_neg (by decide)).trans ((if_neg (by decide)).trans ((if_neg (by decide)).trans m1))
    | exact (if_neg (by decide)).trans ((if_neg (by decide)).trans ((if_neg (by decide)).trans m3))
theorem rz_ConQ : True := by k_with_none; trivial
local macro_rules | `(tactic| omega) => `(tactic| omega (config := {}))
structure NewIt (r : Rd) (I M : Addr) (tail : List (Addr × Obj)) : Prop where
  mi : M ≠ I
  all : ∀ (P : Params) (ln : Int) (tl : Tok) (np nz : Nat), ∀ p ∈ r.news P ln tl [] np [] nz tail, p.1 ≠ I
theorem lexWord_ws {acc : List Nat} {c : Nat} {cs : List Nat} (h : isWs c = true) : lexWord acc (c :: cs) = (acc, cs) := by unfold lexWord; rw [h]; rfl
theorem lexWord_esc {acc : List Nat} {c : Nat} {zs : List (Nat × Tok)} {e : List Nat} {zs' : List (Nat × Tok)} (h : isWs c = false) (h2 : (c == 92) = true) (h3 : (e, zs') = readOf zs) : lexWord acc (c :: zs.map Prod.fst) = lexWord (acc ++ e) (zs'.map Prod.fst) := by
  cases zs with
  | nil => cases h3; rw [List.append_nil]; conv => lhs; unfold lexWord; rw [h, h2]
           rfl
  | cons d zs => cases h3; conv => lhs; unfold lexWord; rw [h, h2]
                 rfl
theorem lexWord_one {acc : List Nat} {c : Nat} {cs : List Nat} (h : isWs c = false) (h2 : (c == 92) = false) : lexWord acc (c :: cs) = lexWord (acc ++ [c]) cs := by
  conv => lhs; unfold lexWord; rw [h, h2]
  rfl
theorem lexMarks_end {acc : List Nat} {c : Nat} {cs : List Nat} (h : (c == 34) = true) : lexMarks acc (c :: cs) = (acc, cs) := by unfold lexMarks; rw [h]; rfl
theorem lexMarks_esc {acc : List Nat} {c : Nat} {zs : List (Nat × Tok)} {e : List Nat} {zs' : List (Nat × Tok)} (h : (c == 34) = false) (h2 : (c == 92) = true) (h3 : (e, zs') = readOf zs) : lexMarks acc (c :: zs.map Prod.fst) = lexMarks (acc ++ e) (zs'.map Prod.fst) := by
  cases zs with
  | nil => cases h3; rw [List.append_nil]; conv => lhs; unfold lexMarks; rw [h, h2]
           rfl
  | cons d zs => cases h3; conv => lhs; unfold lexMarks; rw [h, h2]
                 rfl
theorem lexMarks_one {acc : List Nat} {c : Nat} {cs : List Nat} (h : (c == 34) = false) (h2 : (c == 92) = false) : lexMarks acc (c :: cs) = lexMarks (acc ++ [c]) cs := by
  conv => lhs; unfold lexMarks; rw [h, h2]
  rfl
theorem readOf_len {zs : List (Nat × Tok)} {e : List Nat} {zs' : List (Nat × Tok)} (h : (e, zs') = readOf zs) : zs'.length + e.length = zs.length := by
  cases zs <;> cases h <;> simp
theorem Tk.trans {w : World} {r : Rd} {I M : Addr} {tail : List (Addr × Obj)} {np : Nat} {h₀ : Heap} {L : Addr} {f se : Value} {en : Bool} {zs : List (Nat × Tok)} {acc : List Nat} {s0 s s' : Shared} {h : Heap} {tk : Nat} (e : s = { s0 with heap := h, toks := tk }) (k : Tk w r I M tail np h₀ L f se en zs acc s s') : Tk w r I M tail np h₀ L f se en zs acc s0 s' := by
  obtain ⟨ln, tl, nz, m, h', tk', rfl, F, N, m1, m2, m3⟩ := k
  subst e
  exact ⟨ln, tl, nz, m, h', tk', rfl, F, N, m1, m2, m3⟩
theorem word_loop {w : World} {q : Program} {mean : ExcName → Option Value} {mg mb : Str → Option Value} {loose : List Str} {tail : List (Addr × Obj)} {r : Rd} {ts : Tok} {np : Nat} {I M : Addr}
  {dp un : Nat} {gd : Option (List Code)} {outer : List Env} {A₀ : Around} {base h₀ : Heap} {L : Addr} {s : Shared} {t : PySem.Expr} {wb : List Stmt} {sc : Scope} {R : Result → Shared → Prop}
  (hb : wordAt = some (t, wb, sc)) (W : LexAt r I M tail) (J : NewIt r I M tail) (B : Below A₀ base outer h₀) (X : (K0 w.params).In h₀) (zs : List (Nat × Tok)) (acc : List Nat) (hzs : zs.length + acc.length ≤ 1000)
  (T : Top q loose mean mg mb h₀) (hd : dp + 3 < recursionLimit) (hu : un + 1 + 64 * 3 < cLine)
  (K : Tk w r I M tail np h₀ L (.ref M) (.str (Str.ofString "") ts) false zs acc s s)
  (hN : ∀ acc' s', lexWord acc (zs.map Prod.fst) = (acc', []) → Tk w r I M tail np h₀ L .none .none true [] acc' s s' → R (.ok .next) s')
  (hR : ∀ acc' zs' t' s', lexWord acc (zs.map Prod.fst) = (acc', zs'.map Prod.fst) → zs'.length ≤ zs.length → Tk w r I M tail np h₀ L (.ref M) (.str (Str.ofString "") ts) false zs' acc' s s' → R (.ok (.ret (.str ⟨acc'.toArray⟩ t'))) s') :
    codeAny (model rw_sn0078_01.row.prog w) (ktrTop dp un gd (Str.ofString "_netrclex.get_token") sc L 63 (.ref 62) [] outer) (.forLoop t (.ref I) wb [] (envX (Str.ofString "_netrclex.get_token") sc L 63 (.ref 62) [])) R s := by
  obtain ⟨hsc, hlt⟩ : sc.kind = .function ∧ ∀ v, letOwnedTupleGo t (.ref I) v = pure () := by
    have hl : wordAt = some (_, _, _) := rfl
    have e := hb.symm.trans hl
    injection e with e
    injection e with e1 e2
    injection e2 with e2 e3
    subst e1 e3; exact ⟨rfl, fun _ => rfl⟩
  refine codeAny_forLoop (fun n s' => ∃ zs' acc', zs'.length = n ∧ zs'.length ≤ zs.length ∧ zs'.length + acc'.length ≤ 1000 ∧ lexWord acc' (zs'.map Prod.fst) = lexWord acc (zs.map Prod.fst) ∧ Tk w r I M tail np h₀ L (.ref M) (.str (Str.ofString "") ts) false zs' acc' s s') ?_ zs.length ⟨zs, acc, rfl, Nat.le_refl _, hzs, rfl, K⟩ hlt
  rintro n s' ⟨zs', acc', hn, hle, hb', hl, ln, tl, nz, m, h', tk', rfl, F, N, m1, ⟨tt, m2⟩, m3⟩
  cases zs' with
  | nil =>
    refine g_end (ts := ts) (ln := ln) (tl := tl) (np := np) (nz := nz) W B F X N T hsc hd hu (J.all _ _ _ _ _) J.mi fun h2 tk2 F2 N2 x2 => ?_
    refine wpAny_execs_nil ?_
    refine hN acc' _ (hl.symm.trans ?_) (Tk.trans rfl ⟨ln, tl, nz, m, _, _, rfl, F2, N2, m1, ⟨tt, m2⟩, m3⟩)
    unfold lexWord; rfl
  | cons d zs' =>
    rw [vals_rev] at N
    simp only [List.length_cons] at hb' hn hle
    refine g_item (ts := ts) (ln := ln) (tl := tl) (np := np) (nz := nz) (zl := (valsOf zs').reverse) (c := d.1) (u := d.2) W (by rw [vals_len]; omega) B F X N T hsc hd hu fun ln2 tl2 h2 tk2 F2 N2 x2 => ?_
    refine word_turn (ts := ts) (ln := ln2) (tl := tl2) (np := np) (nz := nz + 1) (r := r) (tt := tt) hb W B F2 X zs' (by omega) d.1 d.2 acc' (by omega) N2 T hd hu m1 m2 m3 ?_ ?_
    · rintro zs2 acc2 s2 hx K2
      refine ⟨_, ?_, zs2, acc2, rfl, ?_⟩ <;> rcases hx with ⟨hws, ⟨e, h92, hr, rfl⟩ | ⟨h92, rfl, rfl⟩⟩
      · have := readOf_len hr; omega
      · omega
      · have hh := readOf_len hr
        exact ⟨by omega, by rw [List.length_append]; omega, (lexWord_esc hws h92 hr).symm.trans hl, Tk.trans rfl (Tk.trans rfl K2)⟩
      · exact ⟨by omega, by rw [List.length_append]; simp; omega, (lexWord_one hws h92).symm.trans hl, Tk.trans rfl (Tk.trans rfl K2)⟩
    · rintro t' s2 hws K2
      exact hR acc' zs' t' s2 (hl.symm.trans (lexWord_ws hws)) (by omega) (Tk.trans rfl (Tk.trans rfl K2))
theorem mark_loop {w : World} {q : Program} {mean : ExcName → Option Value} {mg mb : Str → Option Value} {loose : List Str} {tail : List (Addr × Obj)} {r : Rd} {ts : Tok} {np : Nat} {I M : Addr}
  {dp un : Nat} {gd : Option (List Code)} {outer : List Env} {A₀ : Around} {base h₀ : Heap} {L : Addr} {s : Shared} {t : PySem.Expr} {wb : List Stmt} {sc : Scope} {R : Result → Shared → Prop}
  (hb : markAt = some (t, wb, sc)) (W : LexAt r I M tail) (J : NewIt r I M tail) (B : Below A₀ base outer h₀) (X : (K0 w.params).In h₀) (zs : List (Nat × Tok)) (acc : List Nat) (hzs : zs.length + acc.length ≤ 1000)
  (T : Top q loose mean mg mb h₀) (hd : dp + 3 < recursionLimit) (hu : un + 1 + 64 * 3 < cLine)
  (K : Tk w r I M tail np h₀ L (.ref M) (.str (Str.ofString "") ts) false zs acc s s)
  (hN : ∀ acc' s', lexMarks acc (zs.map Prod.fst) = (acc', []) → Tk w r I M tail np h₀ L .none .none true [] acc' s s' → R (.ok .next) s')
  (hR : ∀ acc' zs' t' s', lexMarks acc (zs.map Prod.fst) = (acc', zs'.map Prod.fst) → zs'.length ≤ zs.length → Tk w r I M tail np h₀ L (.ref M) (.str (Str.ofString "") ts) false zs' acc' s s' → R (.ok (.ret (.str ⟨acc'.toArray⟩ t'))) s') :
    codeAny (model rw_sn0078_01.row.prog w) (ktrTop dp un gd (Str.ofString "_netrclex.get_token") sc L 63 (.ref 62) [] outer) (.forLoop t (.ref I) wb [] (envX (Str.ofString "_netrclex.get_token") sc L 63 (.ref 62) [])) R s := by
  obtain ⟨hsc, hlt⟩ : sc.kind = .function ∧ ∀ v, letOwnedTupleGo t (.ref I) v = pure () := by
    have hl : markAt = some (_, _, _) := rfl
    have e := hb.symm.trans hl
    injection e with e
    injection e with e1 e2
    injection e2 with e2 e3
    subst e1 e3; exact ⟨rfl, fun _ => rfl⟩
  refine codeAny_forLoop (fun n s' => ∃ zs' acc', zs'.length = n ∧ zs'.length ≤ zs.length ∧ zs'.length + acc'.length ≤ 1000 ∧ lexMarks acc' (zs'.map Prod.fst) = lexMarks acc (zs.map Prod.fst) ∧ Tk w r I M tail np h₀ L (.ref M) (.str (Str.ofString "") ts) false zs' acc' s s') ?_ zs.length ⟨zs, acc, rfl, Nat.le_refl _, hzs, rfl, K⟩ hlt
  rintro n s' ⟨zs', acc', hn, hle, hb', hl, ln, tl, nz, m, h', tk', rfl, F, N, m1, ⟨tt, m2⟩, m3⟩
  cases zs' with
  | nil =>
    refine g_end (ts := ts) (ln := ln) (tl := tl) (np := np) (nz := nz) W B F X N T hsc hd hu (J.all _ _ _ _ _) J.mi fun h2 tk2 F2 N2 x2 => ?_
    refine wpAny_execs_nil ?_
    refine hN acc' _ (hl.symm.trans ?_) (Tk.trans rfl ⟨ln, tl, nz, m, _, _, rfl, F2, N2, m1, ⟨tt, m2⟩, m3⟩)
    unfold lexMarks; rfl
  | cons d zs' =>
    rw [vals_rev] at N
    simp only [List.length_cons] at hb' hn hle
    refine g_item (ts := ts) (ln := ln) (tl := tl) (np := np) (nz := nz) (zl := (valsOf zs').reverse) (c := d.1) (u := d.2) W (by rw [vals_len]; omega) B F X N T hsc hd hu fun ln2 tl2 h2 tk2 F2 N2 x2 => ?_
    refine mark_turn (ts := ts) (ln := ln2) (tl := tl2) (np := np) (nz := nz + 1) (r := r) (tt := tt) hb W B F2 X zs' (by omega) d.1 d.2 acc' (by omega) N2 T hd hu m1 m2 m3 ?_ ?_
    · rintro zs2 acc2 s2 hx K2
      refine ⟨_, ?_, zs2, acc2, rfl, ?_⟩ <;> rcases hx with ⟨hws, ⟨e, h92, hr, rfl⟩ | ⟨h92, rfl, rfl⟩⟩
      · have := readOf_len hr; omega
      · omega
      · have hh := readOf_len hr
        exact ⟨by omega, by rw [List.length_append]; omega, (lexMarks_esc hws h92 hr).symm.trans hl, Tk.trans rfl (Tk.trans rfl K2)⟩
      · exact ⟨by omega, by rw [List.length_append]; simp; omega, (lexMarks_one hws h92).symm.trans hl, Tk.trans rfl (Tk.trans rfl K2)⟩
    · rintro t' s2 hws K2
      exact hR acc' zs' t' s2 (hl.symm.trans (lexMarks_end hws)) (by omega) (Tk.trans rfl (Tk.trans rfl K2))
local macro_rules | `(tactic| omega) => `(tactic| k_extra "omega")
theorem rg_ConT_1 : True := by
  k_with_none
  (k_with "my_cell_enter" => (refine' code_defG (B := by k_asm) (F := by k_asm) (by k_asm) (N := by k_asm) (T := by k_asm) (hA := by exact rfl) (hf := by exact rfl) (hke := by assumption) (ho := by k_is) (hcd := by k_is) (hroom := by ktr_room) (hbind := by exact BindsTo.of_eq rfl) (hloc := by exact locs rfl) ?_ (hco := by exact rfl) (hgen := by exact rfl) (hk := by exact rfl) (hcell := by decide); k_whole; walk_at "i4bcc05"))
  (k_with "eval Constant int" => (refine constI ?_))
  (k_with "eval Constant str" => (refine constS ?_))
  (k_with "eval Call" => ((show let Q9 := _; wpAny _ _ _ Q9 _ _); intro Q9; refine Call_ ?_))
  (k_with "eval Call Attribute" => ((show let Q9 := _; wpAny _ _ _ Q9 _ _); intro Q9; refine MethodCall_ ?_))
  (k_with "exec If" => ((show let Q9 := _; wpAny _ _ _ Q9 _ _); intro Q9; refine wpAny_If ?_))
  (k_with "exec Assign" => ((show let Q9 := _; wpAny _ _ _ Q9 _ _); intro Q9; refine wpAny_Assign_Name ?_))
  (k_with "exec AugAssign" => ((show let Q9 := _; wpAny _ _ _ Q9 _ _); intro Q9; refine wpAny_AugAssign_Name ?_))
  (k_with "eval BinOp" => ((show let Q9 := _; wpAny _ _ _ Q9 _ _); intro Q9; refine wpAny_BinOp ?_))
  (k_with "eval Compare" => ((show let Q9 := _; wpAny _ _ _ Q9 _ _); intro Q9; refine wpAny_Compare1 ?_))
  (k_with "isTrue Compare" => ((show let Q9 := _; wpAny _ _ _ Q9 _ _); intro Q9; refine wpAny_isTrue_Compare1 ?_))
  (k_with "eval Subscript" => ((show let Q9 := _; wpAny _ _ _ Q9 _ _); intro Q9; refine Subscript_ ?_))
  (k_with "my_k_all" => (exact TailOff.ne (by assumption)))
  (k_with "my_k_all" => (exact allLt_ne (by assumption)))
  (k_with "a" => (with_reducible assumption))
  (k_with "cn" => (first | k_extra "a" | (apply And.right; first | k_extra "a" | (apply And.right; first | k_extra "a" | (apply And.right; first | k_extra "a" | (apply And.right; first | k_extra "a" | (apply And.right; first | k_extra "a" | (apply And.right; first | k_extra "a" | (apply And.right; first | k_extra "a" | (apply And.right; first | k_extra "a" | (apply And.right; first | k_extra "a" | (apply And.right; first | k_extra "a" | (apply And.right; first | k_extra "a" | (apply And.right; first | k_extra "a" | (apply And.right; k_extra "a")))))))))))))))
  (k_with "cj" => (first | k_extra "cn" | (apply And.left; k_extra "cn")))
  (k_with "lt" => ((first | (with_reducible show @LT.lt Nat _ _ _) | (with_reducible show @LE.le Nat _ _ _)); first | k_extra "cj" | (with_reducible refine Nat.lt_of_succ_lt ?_; k_extra "cj") | (with_reducible refine Nat.le_of_lt ?_; first | k_extra "cj" | (refine Nat.lt_of_succ_lt ?_; k_extra "cj")) | (with_reducible refine Nat.lt_trans ?_ (by with_reducible assumption); k_extra "lt")))
  (k_with "lt0" => (first | with_reducible exact Nat.lt_succ_self _ | with_reducible assumption | (with_reducible refine Nat.lt_succ_of_lt ?_; k_extra "lt0")))
  (k_with "my_k_ne" => (refine neN ?_; (try dsimp only); first | (refine Nat.ne_of_lt ?_; k_extra "lt0") | (refine Nat.ne_of_gt ?_; k_extra "lt0") | (refine Nat.ne_of_lt ?_; k_extra "lt") | (refine Nat.ne_of_gt ?_; k_extra "lt")))
  (k_with "callWith ref" => (k_here; k_dflt (first   | (refine' callWith_F (_X := by exact FnAt.of (by k_asm) (by k_mem)) ?_; k_whole)   | (refine' callWith_F0 (X := by exact FnAt.of (by k_asm) (by k_mem)) ?_; k_whole; try dsimp only [List.nil_append, List.cons_append]))))
  (k_with "eval Name" => (k_here; (fail_if_success (with_reducible show wpAny _ _ (eval _ (compEnvC _ _ _ _)) _ _ _)); k_dflt (refine' nameX_F (N := by k_asm) (hc := by rfl) (hm := by k_mem) (hd := by k_asm) ?_ (hk := by rfl) (hx := by rfl); k_whole)))
  (k_with "truthy ref" => (k_here; (with_reducible show wpAny _ _ (truthy (Value.ref _)) _ _ _); k_dflt (refine' truthyNil (N := by k_asm) (hm := by k_mem) ?_; k_whole)))
  (k_with "truthy ref" => (k_here; (with_reducible show wpAny _ _ (truthy (Value.ref _)) _ _ _); k_dflt (refine' truthySnoc (N := by k_asm) (hm := by k_mem) (hz := by assumption) ?_; k_whole)))
  (k_with "truthy ref" => (k_here; (with_reducible show wpAny _ _ (truthy (Value.ref _)) _ _ _); k_dflt (refine' truthyCons (N := by k_asm) (hm := by k_mem) (hz := by assumption) ?_; k_whole)))
  (k_with "eval Name" => (k_here; (fail_if_success (with_reducible show wpAny _ _ (eval _ (compEnvC _ _ _ _)) _ _ _)); k_dflt (refine' nameX_L2 (hx := by rfl) (hk := by rfl) (hd := by rfl) (F := by k_asm) (hv := by (first | exact rfl | assumption | ((repeat refine (if_neg (by decide)).trans ?_); first | assumption | exact if_pos rfl))) ?_; k_whole)))
  (k_with "inplaceOp Add str str" => (k_here; k_dflt (refine' iaddE (hz := by assumption) (he := by first | assumption | exact Nat.le_refl 1) ?_); intro _ _))
  (k_with "loadName" => (k_here; k_dflt (refine' loadX_L (F := by k_asm) (hv := by (first | exact rfl | assumption | ((repeat refine (if_neg (by decide)).trans ?_); first | assumption | exact if_pos rfl))) ?_ (hk := by rfl) (hx := by rfl); k_whole)))
  (k_with "call ref" => (k_here; k_dflt ((try dsimp only [List.nil_append, List.cons_append]); (with_reducible show wpAny _ _ (call (Value.ref 56) [Value.ref _]) _ _ _); refine' g_read (F := by k_asm) (N := by k_asm) (W := by assumption) (hz := by assumption) (B := by k_asm) (X := by k_asm) (T := by k_asm) (hk := by first | exact rfl | assumption) (hd := by first | assumption | ktr_room) (hu := by first | assumption | ktr_room) ?_); intro _ _ _ _ _ _ _ _ _ _ _ _ _))
  (k_with "exec For Name Name cons nil" => (k_here; k_dflt (refine' wpAny_For ?_ (hs := by exact fun _ => rfl))))
  (k_with "pyIter ref" => (k_here; k_dflt (refine' g_iter (N := by k_asm) ?_)))
  (k_with "omega" => (first | k_extra "lt"))
  (k_with "i4bcc05" => (intro g' L' h' FG' F' N' B' X' T' GS'; (try dsimp only); (try k_lift B'); (try k_fold)))
  (k_with "call ref" => (k_here; k_dflt (refine wpAny_call ?_; (refine' kla_code ?k1 ?k2 ?k3 ?k4 ?k5 ?kA ?kF ?kK ?k6 ?k7 ?k8 ?k9 ?kB ?_ ?c2 ?c3 ?c4 ?c5; (case kA => exact rfl); (case kF => exact rfl); (case kK => first | exact rfl | assumption); (case k1 => k_asm); (case k2 => k_asm); (case k3 => k_asm); (case k4 => k_asm); (case k5 => k_asm); (case k6 => k_mem); (case k7 => exact codeRec_news (by k_asm) (by k_mem) (by assumption) (by assumption)); (case k8 => first | ktr_room | k_room); (case k9 => exact rfl); (case c5 => decide); (case kB => exact locs rfl); (case c2 => exact rfl); (case c3 => exact rfl); (case c4 => exact rfl); k_whole; intro g' L' h' FG' F' N' B' X' T'; (try dsimp only); (try k_lift B'); (try k_fold)))))
  (k_with "call builtin:list.pop" => (k_here; k_dflt ((with_reducible show wpAny _ _ (call (Value.builtin _) [Value.ref _]) _ _ _); refine' kl_pop ?F ?N ?e ?U ?z ?_; (case F => k_asm); (case N => k_asm); (case U => k_upd); (case e => exact kl_last_snoc _ _); (case z => exact snoc_room (by assumption))); kl_rest))
  (k_with "call builtin:list.pop" => (k_here; k_dflt ((with_reducible show wpAny _ _ (call (Value.builtin _) [Value.ref _, Value.int _ _]) _ _ _); refine' kl_popAt (p := []) (k := 0) ?F ?N ?f ?k ?e ?U ?z ?_; (case F => k_asm); (case N => k_asm); (case U => k_upd); (case f => rfl); (case k => exact cons_idx _ _); (case e => exact rfl); (case z => exact cons_room (by assumption))); kl_rest))
  trivial
noncomputable def outerAt : Option (PySem.Expr × List Stmt × Scope) := match methAt 2 with
  | some (_, _, b, sc) => (match b[(3 : Nat)]? with
    | some (.For t _ fb _ _) => some (t, fb, sc)
    | _ => none)
  | _ => none
theorem lexTok_ws {c : Nat} {cs : List Nat} (h : isWs c = true) : lexTok (c :: cs) = lexTok cs := by
  conv => lhs; unfold lexTok; rw [h]
  rfl
theorem lexTok_mark {c : Nat} {cs : List Nat} (h : isWs c = false) (h2 : (c == 34) = true) : lexTok (c :: cs) = lexMarks [] cs := by
  conv => lhs; unfold lexTok; rw [h, h2]
  rfl
theorem lexTok_one {c : Nat} {cs : List Nat} (h : isWs c = false) (h2 : (c == 34) = false) (h3 : (c == 92) = false) : lexTok (c :: cs) = lexWord ([] ++ [c]) cs := by
  conv => lhs; unfold lexTok; rw [h, h2, h3]
  rfl
theorem lexTok_esc {c : Nat} {zs : List (Nat × Tok)} {e : List Nat} {zs' : List (Nat × Tok)} (h : isWs c = false) (h2 : (c == 34) = false) (h3 : (c == 92) = true) (h4 : (e, zs') = readOf zs) : lexTok (c :: zs.map Prod.fst) = lexWord ([] ++ e) (zs'.map Prod.fst) := by
  cases zs with
  | nil => cases h4; conv => lhs; unfold lexTok; rw [h, h2, h3]
           conv => rhs; unfold lexWord
           rfl
  | cons d zs => cases h4; conv => lhs; unfold lexTok; rw [h, h2, h3]
                 rfl
theorem word_loop_esc {w : World} {q : Program} {mean : ExcName → Option Value} {mg mb : Str → Option Value} {loose : List Str} {tail : List (Addr × Obj)} {r : Rd} {ts : Tok} {np : Nat} {I M : Addr}
  {dp un : Nat} {gd : Option (List Code)} {outer : List Env} {A₀ : Around} {base h₀ : Heap} {L : Addr} {s : Shared} {t : PySem.Expr} {wb : List Stmt} {sc : Scope} {R : Result → Shared → Prop} {zs : List (Nat × Tok)} {e : List Nat} {zs' : List (Nat × Tok)}
  (hb : wordAt = some (t, wb, sc)) (e4 : (e, zs') = readOf zs) (hzs : zs.length ≤ 999) (W : LexAt r I M tail) (J : NewIt r I M tail) (B : Below A₀ base outer h₀) (X : (K0 w.params).In h₀)
  (T : Top q loose mean mg mb h₀) (hd : dp + 3 < recursionLimit) (hu : un + 1 + 64 * 3 < cLine)
  (K : Tk w r I M tail np h₀ L (.ref M) (.str (Str.ofString "") ts) false zs' ([] ++ e) s s)
  (hN : ∀ acc' s', lexWord ([] ++ (readOf zs).1) ((readOf zs).2.map Prod.fst) = (acc', []) → Tk w r I M tail np h₀ L .none .none true [] acc' s s' → R (.ok .next) s')
  (hR : ∀ acc' zs'' t' s', lexWord ([] ++ (readOf zs).1) ((readOf zs).2.map Prod.fst) = (acc', zs''.map Prod.fst) → zs''.length ≤ zs.length → Tk w r I M tail np h₀ L (.ref M) (.str (Str.ofString "") ts) false zs'' acc' s s' → R (.ok (.ret (.str ⟨acc'.toArray⟩ t'))) s') :
    codeAny (model rw_sn0078_01.row.prog w) (ktrTop dp un gd (Str.ofString "_netrclex.get_token") sc L 63 (.ref 62) [] outer) (.forLoop t (.ref I) wb [] (envX (Str.ofString "_netrclex.get_token") sc L 63 (.ref 62) [])) R s := by
  have hh := readOf_len e4
  rw [← e4] at hN hR
  exact word_loop hb W J B X zs' ([] ++ e) (by rw [List.nil_append]; omega) T hd hu K hN fun acc' zs'' t' s' a b c => hR acc' zs'' t' s' a (by omega) c
set_option maxHeartbeats 4000000 in
theorem outer_turn {w : World} {q : Program} {mean : ExcName → Option Value} {mg mb : Str → Option Value} {loose : List Str} {tail : List (Addr × Obj)} {r : Rd} {ln : Int} {tl ts : Tok} {np nz : Nat} {I M : Addr}
  {dp un : Nat} {gd : Option (List Code)} {outer : List Env} {A₀ : Around} {base h₀ : Heap} {L : Addr} {m : Str → Option Value} {s : Shared} {t : PySem.Expr} {wb : List Stmt} {sc : Scope} {Q : Flow → Shared → Prop} {E : Value → Shared → Prop}
  (hb : outerAt = some (t, wb, sc)) (W : LexAt r I M tail) (J : NewIt r I M tail) (B : Below A₀ base outer h₀) (F : Fr h₀ L s.heap m) (X : (K0 w.params).In h₀) (zs : List (Nat × Tok)) (hzs : zs.length ≤ 999) (c : Nat) (u : Tok) (tt : Tok)
  (N : News h₀ L s.heap (r.own w.params I M (.ref M) (.str (Str.ofString "") ts) false ln tl np (valsOf zs).reverse nz tail)) (T : Top q loose mean mg mb h₀) (hd : dp + 3 < recursionLimit) (hu : un + 1 + 64 * 3 < cLine)
  (m1 : m (Str.ofString "self") = some (.ref r.xr)) (m2 : m (Str.ofString "token") = some (.str ⟨([] : List Nat).toArray⟩ tt)) (m3 : m (Str.ofString "fiter") = some (.ref I))
  (hC : ∀ s', isWs c = true → Tk w r I M tail np h₀ L (.ref M) (.str (Str.ofString "") ts) false zs [] s s' → Q .cont s')
  (hN : ∀ acc' s', lexTok (c :: zs.map Prod.fst) = (acc', []) → Tk w r I M tail np h₀ L .none .none true [] acc' s s' → Q .next s')
  (hR : ∀ acc' zs' t' s', lexTok (c :: zs.map Prod.fst) = (acc', zs'.map Prod.fst) → zs'.length ≤ zs.length → Tk w r I M tail np h₀ L (.ref M) (.str (Str.ofString "") ts) false zs' acc' s s' → Q (.ret (.str ⟨acc'.toArray⟩ t')) s') :
    wpAny (model rw_sn0078_01.row.prog w) (ktrTop dp un gd (Str.ofString "_netrclex.get_token") sc L 63 (.ref 62) [] outer) (assign t (envX (Str.ofString "_netrclex.get_token") sc L 63 (.ref 62) []) (.str ⟨#[c]⟩ u))
      (fun _ s₂ => wpAny (model rw_sn0078_01.row.prog w) (ktrTop dp un gd (Str.ofString "_netrclex.get_token") sc L 63 (.ref 62) [] outer) (execs wb (envX (Str.ofString "_netrclex.get_token") sc L 63 (.ref 62) [])) Q E s₂) E s := by
  revert X; k_fill; intro X
  have hl : outerAt = some (_, _, _) := rfl
  have e := hb.symm.trans hl
  clear hl hb
  injection e with e
  injection e with e1 e2
  injection e2 with e2 e3
  subst e1 e2 e3
  have W0 := W
  have hu0 : un + 64 * 3 < cLine := by omega
  have hzs' : zs.length ≤ 1000 := by omega
  have hacc : ([] : List Nat).length ≤ 1000 := by decide
  obtain ⟨⟨oc1, oc2, oc3, o1, o2, o3, o4, o5, o6, o7, o8⟩, hf1, hf2, n1, n2, n3, n4, n5, n6⟩ := W
  dsimp only [Rd.own, Rd.news] at N
  refine wpAny_assign_Name ?_
  k_steps
  all_goals (try dsimp only)
  · have e1 := Bool.not_eq_true' _ |>.mp ((ws_occ c).symm.trans (by assumption))
    have e2 := (eq_quote c).symm.trans (by assumption)
    refine' mark_loop (ts := ts) (np := np) (r := r) (M := M) (tail := tail) (zs := zs) (acc := []) rfl W0 J B X (by simp; omega) T hd hu ⟨_, _, _, _, _, _, rfl, by assumption, by assumption, ?_, ?_, ?_⟩ ?_ ?_
    iterate 3 (first | exact (if_neg (by decide)).trans m1 | exact ⟨_, (if_neg (by decide)).trans m2⟩ | exact (if_neg (by decide)).trans m3 | exact ⟨_, if_pos rfl⟩ | exact (if_neg (by decide)).trans ((if_neg (by decide)).trans m1) | exact (if_neg (by decide)).trans ((if_neg (by decide)).trans m3) | exact (if_neg (by decide)).trans ((if_neg (by decide)).trans ((if_neg (by decide)).trans m1)) | exact (if_neg (by decide)).trans ((if_neg (by decide)).trans ((if_neg (by decide)).trans m3)))
    · intro acc' s' hx K
      dsimp only
      k_steps
      all_goals (refine hN _ _ ((lexTok_mark e1 e2).trans hx) (Tk.trans rfl K))
    · intro acc' zs' t' s' hx hle K
      exact hR _ _ _ _ ((lexTok_mark e1 e2).trans hx) hle (Tk.trans rfl K)
  · have e1 := Bool.not_eq_true' _ |>.mp ((ws_occ c).symm.trans (by assumption))
    have e2 := (eq_quote c).symm.trans (by assumption)
    have e3 := (eq_slash c).symm.trans (by assumption)
    refine' word_loop_esc (ts := ts) (np := np) (r := r) (M := M) (tail := tail) (zs := zs) rfl (by assumption) hzs W0 J B X T hd hu ⟨_, _, _, _, _, _, rfl, by assumption, by assumption, ?_, ?_, ?_⟩ ?_ ?_
    iterate 3 (first | exact (if_neg (by decide)).trans m1 | exact ⟨_, (if_neg (by decide)).trans m2⟩ | exact (if_neg (by decide)).trans m3 | exact ⟨_, if_pos rfl⟩ | exact (if_neg (by decide)).trans ((if_neg (by decide)).trans m1) | exact (if_neg (by decide)).trans ((if_neg (by decide)).trans m3) | exact (if_neg (by decide)).trans ((if_neg (by decide)).trans ((if_neg (by decide)).trans m1)) | exact (if_neg (by decide)).trans ((if_neg (by decide)).trans ((if_neg (by decide)).trans m3)))
    · intro acc' s' hx K
      dsimp only
      k_steps
      all_goals (refine hN _ _ ((lexTok_esc e1 e2 e3 rfl).trans hx) (Tk.trans rfl K))
    · intro acc' zs' t' s' hx hle K
      exact hR _ _ _ _ ((lexTok_esc e1 e2 e3 rfl).trans hx) hle (Tk.trans rfl K)
  · have e1 := Bool.not_eq_true' _ |>.mp ((ws_occ c).symm.trans (by assumption))
    have e2 := (eq_quote c).symm.trans (by assumption)
    have e3 := (eq_slash c).symm.trans (by assumption)
    refine' word_loop (ts := ts) (np := np) (r := r) (M := M) (tail := tail) (zs := zs) (acc := [] ++ [c]) rfl W0 J B X (by simp; omega) T hd hu ⟨_, _, _, _, _, _, rfl, by assumption, by assumption, ?_, ?_, ?_⟩ ?_ ?_
    iterate 3 (first | exact (if_neg (by decide)).trans m1 | exact ⟨_, (if_neg (by decide)).trans m2⟩ | exact (if_neg (by decide)).trans m3 | exact ⟨_, if_pos rfl⟩ | exact (if_neg (by decide)).trans ((if_neg (by decide)).trans m1) | exact (if_neg (by decide)).trans ((if_neg (by decide)).trans m3) | exact (if_neg (by decide)).trans ((if_neg (by decide)).trans ((if_neg (by decide)).trans m1)) | exact (if_neg (by decide)).trans ((if_neg (by decide)).trans ((if_neg (by decide)).trans m3)))
    · intro acc' s' hx K
      dsimp only
      k_steps
      all_goals (refine hN _ _ ((lexTok_one e1 e2 e3).trans hx) (Tk.trans rfl K))
    · intro acc' zs' t' s' hx hle K
      exact hR _ _ _ _ ((lexTok_one e1 e2 e3).trans hx) hle (Tk.trans rfl K)
  · have e1 := Bool.not_eq_false' _ |>.mp ((ws_occ c).symm.trans (by assumption))
    refine' hC _ e1 ⟨_, _, _, _, _, _, rfl, by assumption, by assumption, ?_, ?_, ?_⟩
    · exact (if_neg (by decide)).trans m1
    · exact ⟨_, (if_neg (by decide)).trans m2⟩
    · exact (if_neg (by decide)).trans m3
theorem rg_ConU_1 : True := by
  k_with_none
  (k_with "my_cell_enter" => (refine' code_defG (B := by k_asm) (F := by k_asm) (by k_asm) (N := by k_asm) (T := by k_asm) (hA := by exact rfl) (hf := by exact rfl) (hke := by assumption) (ho := by k_is) (hcd := by k_is) (hroom := by ktr_room) (hbind := by exact BindsTo.of_eq rfl) (hloc := by exact locs rfl) ?_ (hco := by exact rfl) (hgen := by exact rfl) (hk := by exact rfl) (hcell := by decide); k_whole; walk_at "i4bcc05"))
  (k_with "eval Constant int" => (refine constI ?_))
  (k_with "eval Constant str" => (refine constS ?_))
  (k_with "eval Call" => ((show let Q9 := _; wpAny _ _ _ Q9 _ _); intro Q9; refine Call_ ?_))
  (k_with "eval Call Attribute" => ((show let Q9 := _; wpAny _ _ _ Q9 _ _); intro Q9; refine MethodCall_ ?_))
  (k_with "exec If" => ((show let Q9 := _; wpAny _ _ _ Q9 _ _); intro Q9; refine wpAny_If ?_))
  (k_with "exec Assign" => ((show let Q9 := _; wpAny _ _ _ Q9 _ _); intro Q9; refine wpAny_Assign_Name ?_))
  (k_with "exec AugAssign" => ((show let Q9 := _; wpAny _ _ _ Q9 _ _); intro Q9; refine wpAny_AugAssign_Name ?_))
  (k_with "eval BinOp" => ((show let Q9 := _; wpAny _ _ _ Q9 _ _); intro Q9; refine wpAny_BinOp ?_))
  (k_with "eval Compare" => ((show let Q9 := _; wpAny _ _ _ Q9 _ _); intro Q9; refine wpAny_Compare1 ?_))
  (k_with "isTrue Compare" => ((show let Q9 := _; wpAny _ _ _ Q9 _ _); intro Q9; refine wpAny_isTrue_Compare1 ?_))
  (k_with "eval Subscript" => ((show let Q9 := _; wpAny _ _ _ Q9 _ _); intro Q9; refine Subscript_ ?_))
  (k_with "my_k_all" => (exact TailOff.ne (by assumption)))
  (k_with "my_k_all" => (exact allLt_ne (by assumption)))
  (k_with "a" => (with_reducible assumption))
  (k_with "cn" => (first | k_extra "a" | (apply And.right; first | k_extra "a" | (apply And.right; first | k_extra "a" | (apply And.right; first | k_extra "a" | (apply And.right; first | k_extra "a" | (apply And.right; first | k_extra "a" | (apply And.right; first | k_extra "a" | (apply And.right; first | k_extra "a" | (apply And.right; first | k_extra "a" | (apply And.right; first | k_extra "a" | (apply And.right; first | k_extra "a" | (apply And.right; first | k_extra "a" | (apply And.right; first | k_extra "a" | (apply And.right; k_extra "a")))))))))))))))
  (k_with "cj" => (first | k_extra "cn" | (apply And.left; k_extra "cn")))
  (k_with "lt" => ((first | (with_reducible show @LT.lt Nat _ _ _) | (with_reducible show @LE.le Nat _ _ _)); first | k_extra "cj" | (with_reducible refine Nat.lt_of_succ_lt ?_; k_extra "cj") | (with_reducible refine Nat.le_of_lt ?_; first | k_extra "cj" | (refine Nat.lt_of_succ_lt ?_; k_extra "cj")) | (with_reducible refine Nat.lt_trans ?_ (by with_reducible assumption); k_extra "lt")))
  (k_with "lt0" => (first | with_reducible exact Nat.lt_succ_self _ | with_reducible assumption | (with_reducible refine Nat.lt_succ_of_lt ?_; k_extra "lt0")))
  (k_with "my_k_ne" => (refine neN ?_; (try dsimp only); first | (refine Nat.ne_of_lt ?_; k_extra "lt0") | (refine Nat.ne_of_gt ?_; k_extra "lt0") | (refine Nat.ne_of_lt ?_; k_extra "lt") | (refine Nat.ne_of_gt ?_; k_extra "lt")))
  (k_with "callWith ref" => (k_here; k_dflt (first   | (refine' callWith_F (_X := by exact FnAt.of (by k_asm) (by k_mem)) ?_; k_whole)   | (refine' callWith_F0 (X := by exact FnAt.of (by k_asm) (by k_mem)) ?_; k_whole; try dsimp only [List.nil_append, List.cons_append]))))
  (k_with "eval Name" => (k_here; (fail_if_success (with_reducible show wpAny _ _ (eval _ (compEnvC _ _ _ _)) _ _ _)); k_dflt (refine' nameX_F (N := by k_asm) (hc := by rfl) (hm := by k_mem) (hd := by k_asm) ?_ (hk := by rfl) (hx := by rfl); k_whole)))
  (k_with "truthy ref" => (k_here; (with_reducible show wpAny _ _ (truthy (Value.ref _)) _ _ _); k_dflt (refine' truthyNil (N := by k_asm) (hm := by k_mem) ?_; k_whole)))
  (k_with "truthy ref" => (k_here; (with_reducible show wpAny _ _ (truthy (Value.ref _)) _ _ _); k_dflt (refine' truthySnoc (N := by k_asm) (hm := by k_mem) (hz := by assumption) ?_; k_whole)))
  (k_with "truthy ref" => (k_here; (with_reducible show wpAny _ _ (truthy (Value.ref _)) _ _ _); k_dflt (refine' truthyCons (N := by k_asm) (hm := by k_mem) (hz := by assumption) ?_; k_whole)))
  (k_with "eval Name" => (k_here; (fail_if_success (with_reducible show wpAny _ _ (eval _ (compEnvC _ _ _ _)) _ _ _)); k_dflt (refine' nameX_L2 (hx := by rfl) (hk := by rfl) (hd := by rfl) (F := by k_asm) (hv := by (first | exact rfl | assumption | ((repeat refine (if_neg (by decide)).trans ?_); first | assumption | exact if_pos rfl))) ?_; k_whole)))
  (k_with "inplaceOp Add str str" => (k_here; k_dflt (refine' iaddE (hz := by assumption) (he := by first | assumption | exact Nat.le_refl 1) ?_); intro _ _))
  (k_with "loadName" => (k_here; k_dflt (refine' loadX_L (F := by k_asm) (hv := by (first | exact rfl | assumption | ((repeat refine (if_neg (by decide)).trans ?_); first | assumption | exact if_pos rfl))) ?_ (hk := by rfl) (hx := by rfl); k_whole)))
  (k_with "call ref" => (k_here; k_dflt ((try dsimp only [List.nil_append, List.cons_append]); (with_reducible show wpAny _ _ (call (Value.ref 56) [Value.ref _]) _ _ _); refine' g_read (F := by k_asm) (N := by k_asm) (W := by assumption) (hz := by assumption) (B := by k_asm) (X := by k_asm) (T := by k_asm) (hk := by first | exact rfl | assumption) (hd := by first | assumption | ktr_room) (hu := by first | assumption | ktr_room) ?_); intro _ _ _ _ _ _ _ _ _ _ _ _ _))
  (k_with "exec For Name Name cons nil" => (k_here; k_dflt (refine' wpAny_For ?_ (hs := by exact fun _ => rfl))))
  (k_with "pyIter ref" => (k_here; k_dflt (refine' g_iter (N := by k_asm) ?_)))
  (k_with "call builtin:iter" => (k_here; (with_reducible show wpAny _ _ (call (Value.builtin "iter") [Value.ref _, _]) _ _ _); k_dflt (refine' ci_make (F := by k_asm) (N := by k_asm) (hM := by k_mem) ?_); walk_at "i8e4b1b"))
  (k_with "omega" => (first | k_extra "lt"))
  (k_with "i4bcc05" => (intro g' L' h' FG' F' N' B' X' T' GS'; (try dsimp only); (try k_lift B'); (try k_fold)))
  (k_with "call ref" => (k_here; k_dflt (refine wpAny_call ?_; (refine' kla_code ?k1 ?k2 ?k3 ?k4 ?k5 ?kA ?kF ?kK ?k6 ?k7 ?k8 ?k9 ?kB ?_ ?c2 ?c3 ?c4 ?c5; (case kA => exact rfl); (case kF => exact rfl); (case kK => first | exact rfl | assumption); (case k1 => k_asm); (case k2 => k_asm); (case k3 => k_asm); (case k4 => k_asm); (case k5 => k_asm); (case k6 => k_mem); (case k7 => exact codeRec_news (by k_asm) (by k_mem) (by assumption) (by assumption)); (case k8 => first | ktr_room | k_room); (case k9 => exact rfl); (case c5 => decide); (case kB => exact locs rfl); (case c2 => exact rfl); (case c3 => exact rfl); (case c4 => exact rfl); k_whole; intro g' L' h' FG' F' N' B' X' T'; (try dsimp only); (try k_lift B'); (try k_fold)))))
  (k_with "call builtin:list.pop" => (k_here; k_dflt ((with_reducible show wpAny _ _ (call (Value.builtin _) [Value.ref _]) _ _ _); refine' kl_pop ?F ?N ?e ?U ?z ?_; (case F => k_asm); (case N => k_asm); (case U => k_upd); (case e => exact kl_last_snoc _ _); (case z => exact snoc_room (by assumption))); kl_rest))
  (k_with "call builtin:list.pop" => (k_here; k_dflt ((with_reducible show wpAny _ _ (call (Value.builtin _) [Value.ref _, Value.int _ _]) _ _ _); refine' kl_popAt (p := []) (k := 0) ?F ?N ?f ?k ?e ?U ?z ?_; (case F => k_asm); (case N => k_asm); (case U => k_upd); (case f => rfl); (case k => exact cons_idx _ _); (case e => exact rfl); (case z => exact cons_room (by assumption))); kl_rest))
  (k_with "i8e4b1b" => (intro I' h' F' N' l1; have l0 := l1; (try k_lt l1); revert I' h' F' N' l1 l0; intros))
  trivial
theorem outer_loop {w : World} {q : Program} {mean : ExcName → Option Value} {mg mb : Str → Option Value} {loose : List Str} {tail : List (Addr × Obj)} {r : Rd} {ts : Tok} {np : Nat} {I M : Addr}
  {dp un : Nat} {gd : Option (List Code)} {outer : List Env} {A₀ : Around} {base h₀ : Heap} {L : Addr} {s : Shared} {t : PySem.Expr} {wb : List Stmt} {sc : Scope} {R : Result → Shared → Prop}
  (hb : outerAt = some (t, wb, sc)) (W : LexAt r I M tail) (J : NewIt r I M tail) (B : Below A₀ base outer h₀) (X : (K0 w.params).In h₀) (zs : List (Nat × Tok)) (hzs : zs.length ≤ 1000)
  (T : Top q loose mean mg mb h₀) (hd : dp + 3 < recursionLimit) (hu : un + 1 + 64 * 3 < cLine)
  (K : Tk w r I M tail np h₀ L (.ref M) (.str (Str.ofString "") ts) false zs [] s s)
  (hN : ∀ f se en acc' s', lexTok (zs.map Prod.fst) = (acc', []) → Tk w r I M tail np h₀ L f se en [] acc' s s' → R (.ok .next) s')
  (hR : ∀ acc' zs' t' s', lexTok (zs.map Prod.fst) = (acc', zs'.map Prod.fst) → zs'.length ≤ zs.length → Tk w r I M tail np h₀ L (.ref M) (.str (Str.ofString "") ts) false zs' acc' s s' → R (.ok (.ret (.str ⟨acc'.toArray⟩ t'))) s') :
    codeAny (model rw_sn0078_01.row.prog w) (ktrTop dp un gd (Str.ofString "_netrclex.get_token") sc L 63 (.ref 62) [] outer) (.forLoop t (.ref I) wb [] (envX (Str.ofString "_netrclex.get_token") sc L 63 (.ref 62) [])) R s := by
  obtain ⟨hsc, hlt⟩ : sc.kind = .function ∧ ∀ v, letOwnedTupleGo t (.ref I) v = pure () := by
    have hl : outerAt = some (_, _, _) := rfl
    have e := hb.symm.trans hl
    injection e with e
    injection e with e1 e2
    injection e2 with e2 e3
    subst e1 e3; exact ⟨rfl, fun _ => rfl⟩
  refine codeAny_forLoop (fun n s' => (∃ zs', n = zs'.length + 1 ∧ zs'.length ≤ zs.length ∧ lexTok (zs'.map Prod.fst) = lexTok (zs.map Prod.fst) ∧ Tk w r I M tail np h₀ L (.ref M) (.str (Str.ofString "") ts) false zs' [] s s') ∨ (n = 0 ∧ ∃ acc', lexTok (zs.map Prod.fst) = (acc', []) ∧ Tk w r I M tail np h₀ L .none .none true [] acc' s s')) ?_ (zs.length + 1) (.inl ⟨zs, rfl, Nat.le_refl _, rfl, K⟩) hlt
  rintro n s' (⟨zs', hn, hle, hl, ln, tl, nz, m, h', tk', rfl, F, N, m1, ⟨tt, m2⟩, m3⟩ | ⟨hn, acc', hl, ln, tl, nz, m, h', tk', rfl, F, N, m1, ⟨tt, m2⟩, m3⟩)
  · cases zs' with
    | nil =>
      refine g_end (ts := ts) (ln := ln) (tl := tl) (np := np) (nz := nz) W B F X N T hsc hd hu (J.all _ _ _ _ _) J.mi fun h2 tk2 F2 N2 x2 => ?_
      refine wpAny_execs_nil ?_
      refine hN _ _ _ [] _ (hl.symm.trans ?_) (Tk.trans rfl ⟨ln, tl, nz, m, _, _, rfl, F2, N2, m1, ⟨tt, m2⟩, m3⟩)
      unfold lexTok; rfl
    | cons d zs' =>
      rw [vals_rev] at N
      simp only [List.length_cons] at hn hle
      refine g_item (ts := ts) (ln := ln) (tl := tl) (np := np) (nz := nz) (zl := (valsOf zs').reverse) (c := d.1) (u := d.2) W (by rw [vals_len]; omega) B F X N T hsc hd hu fun ln2 tl2 h2 tk2 F2 N2 x2 => ?_
      refine outer_turn (ts := ts) (ln := ln2) (tl := tl2) (np := np) (nz := nz + 1) (r := r) (tt := tt) hb W J B F2 X zs' (by omega) d.1 d.2 N2 T hd hu m1 m2 m3 ?_ ?_ ?_
      · intro s2 hws K2
        exact ⟨zs'.length + 1, by omega, .inl ⟨zs', rfl, by omega, (lexTok_ws hws).symm.trans hl, Tk.trans rfl (Tk.trans rfl K2)⟩⟩
      · intro acc2 s2 hx K2
        exact ⟨0, by omega, .inr ⟨rfl, acc2, hl.symm.trans hx, Tk.trans rfl (Tk.trans rfl K2)⟩⟩
      · intro acc2 zs2 t' s2 hx hle2 K2
        exact hR acc2 zs2 t' s2 (hl.symm.trans hx) (by omega) (Tk.trans rfl (Tk.trans rfl K2))
  · refine g_over F N fun h2 F2 N2 x2 => ?_
    refine wpAny_execs_nil ?_
    exact hN _ _ _ acc' _ hl (Tk.trans rfl ⟨ln, tl, nz, m, _, _, rfl, F2, N2, m1, ⟨tt, m2⟩, m3⟩)
theorem news_drop2 {h₀ h : Heap} {L : Addr} {a b : Addr × Obj} {R : List (Addr × Obj)} (N : News h₀ L h (a :: b :: R)) : News h₀ L h R := fun p hp => N p (.tail _ (.tail _ hp))
set_option maxHeartbeats 4000000 in
theorem c_token (w : World) (q : Program) (mean : ExcName → Option Value) (mg mb : Str → Option Value) (loose : List Str) (tail : List (Addr × Obj)) (r : Rd) (ln : Int) (tl : Tok) (np nz : Nat) (cs : List (Nat × Tok)) :
  ClM 5 rw_sn0078_01.row.prog w (K0 w.params) q loose mean mg mb 63 (r.news w.params ln tl [] np (valsOf cs).reverse nz tail) [r.l, r.dr] (r.Ok ∧ cs.length ≤ 1000 ∧ TailOff r.l tail ∧ TailOff r.dr tail ∧ neN' r.cc r.l ∧ neN' r.cc r.dr) [.ref r.xr]
    (fun v' news' => ∃ acc t zs' ln' tl' nz', v' = .str ⟨acc.toArray⟩ t ∧ lexTok (cs.map Prod.fst) = (acc, zs'.map Prod.fst) ∧ zs'.length ≤ cs.length ∧ news' = r.news w.params ln' tl' [] np (valsOf zs').reverse nz' tail) := by
  k_fill
  dsimp only [ClM, Rd.news, neN']; intros; rename_i hpre _ _ hret; obtain ⟨⟨oc1, oc2, oc3, o1, o2, o3, o4, o5, o6, o7, o8⟩, hz, hf1, hf2, n1, n2⟩ := hpre
  k_dflt cell_enter
  k_steps
  rename_i q1 h1 lM I1 h2 l0 lI h3 FF NN
  refine' outer_loop (np := np) (r := r) (tail := tail) rfl ⟨⟨oc1, oc2, oc3, o1, o2, o3, o4, o5, o6, o7, o8⟩, hf1, hf2, n1, n2, Nat.ne_of_gt lI.2.2.2.2.2.2.2.2.2.1, Nat.ne_of_gt lI.2.2.2.1, Nat.ne_of_gt lM.2.2.2.2.2.2.2.2.1, Nat.ne_of_gt lM.2.2.1⟩ ⟨Nat.ne_of_lt lI.1, ?J⟩ (by k_asm) (by k_asm) cs hz (by k_asm) ?hd ?hu ⟨ln, tl, nz, _, _, _, rfl, FF, NN, ?m1, ?m2, ?m3⟩ ?hN ?hR
  case J =>
    intro P ln tl np nz
    simp only [Rd.news, List.forall_mem_cons]
    exact ⟨Nat.ne_of_lt lI.2.1, Nat.ne_of_lt lI.2.2.1, Nat.ne_of_lt lI.2.2.2.1, Nat.ne_of_lt lI.2.2.2.2.1, Nat.ne_of_lt lI.2.2.2.2.2.1, Nat.ne_of_lt lI.2.2.2.2.2.2.1, Nat.ne_of_lt lI.2.2.2.2.2.2.2.1, Nat.ne_of_lt lI.2.2.2.2.2.2.2.2.1, Nat.ne_of_lt lI.2.2.2.2.2.2.2.2.2.1, Nat.ne_of_lt lI.2.2.2.2.2.2.2.2.2.2.1, fun p hp => Nat.ne_of_lt (l0 p (by (iterate 11 refine List.mem_cons_of_mem _ ?_); exact hp))⟩
  case hd => ktr_room
  case hu => ktr_room
  case m1 => rfl
  case m2 => rw [← emp_str]; exact ⟨_, rfl⟩
  case m3 => rfl
  case hN =>
    rintro f se en acc' s' hx ⟨ln', tl', nz', m', h', tk', rfl, F2, N2, m1, ⟨tt, m2⟩, m3⟩
    dsimp only
    k_steps
    all_goals (refine' hret _ _ _ _ ⟨acc', _, [], ln', tl', nz', rfl, hx, (by simp), rfl⟩ (by k_asm) (news_drop2 (by assumption)) (clm_ext (by assumption) (by assumption) (by assumption) (by assumption) (by
      (iterate 10 refine fm_cons (by first | exact .inr (by k_mem) | exact .inl (by k_mem)) ?_)
      exact fun p hp => .inr (by repeat (first | assumption | refine List.mem_cons_of_mem _ ?_)))))
  case hR =>
    rintro acc' zs' t' s' hx hle ⟨ln', tl', nz', m', h', tk', rfl, F2, N2, m1, ⟨tt, m2⟩, m3⟩
    dsimp only
    k_steps
    all_goals (refine' hret _ _ _ _ ⟨acc', _, zs', ln', tl', nz', rfl, hx, hle, rfl⟩ (by k_asm) (news_drop2 (by assumption)) (clm_ext (by assumption) (by assumption) (by assumption) (by assumption) (by
      (iterate 10 refine fm_cons (by first | exact .inr (by k_mem) | exact .inl (by k_mem)) ?_)
      exact fun p hp => .inr (by repeat (first | assumption | refine List.mem_cons_of_mem _ ?_)))))
theorem rz_ConV : True := by k_with_none; trivial
local macro_rules | `(tactic| omega) => `(tactic| omega (config := {}))
section
variable {prog : Program} {w : World} {A : Around} {E : Value → Shared → Prop} {s : Shared} {h₀ : Heap} {L I : Addr} {m : Str → Option Value} {nx₀ : List (Addr × Obj)} {n : Nat} {fp : List Addr} {P : Nat → Value → Prop} {St : Nat → Heap → Prop} {o : Obj}
noncomputable def TurnEnd (h₀ : Heap) (L I : Addr) (o : Obj) (J : (Str → Option Value) → List (Addr × Obj) → Prop) (s : Shared) (R : Result → Shared → Prop) (f : Flow) (s₃ : Shared) : Prop :=
  match f with
  | .next | .cont => ∃ h' gs tk m' nx, s₃ = { s with heap := h', gens := gs, toks := tk } ∧ Fr h₀ L h' m' ∧ News h₀ L h' ((I, o) :: nx) ∧ J m' nx
  | .brk => R (.ok .next) s₃
  | .ret v => R (.ok (.ret v)) s₃
noncomputable def Stays (h₀ : Heap) (fp : List Addr) (I : Addr) (J : List (Addr × Obj) → Prop) : Prop :=
  ∀ b ∈ fp, b = I ∨ (∃ o, h₀.get? b = some o) ∨ ∃ o, ∀ nx, J nx → (b, o) ∈ nx
theorem stays_frame {h h' : Heap} {m m' : Str → Option Value} {nx nx' : List (Addr × Obj)} {J : List (Addr × Obj) → Prop} {l l' : List (Addr × Obj)} (H : Stays h₀ fp I J) (F' : Fr h₀ L h' m') (F : Fr h₀ L h m)
    (N : News h₀ L h l) (N' : News h₀ L h' l') (hI : (I, o) ∈ l) (hI' : (I, o) ∈ l') (hl : ∀ p ∈ nx, p ∈ l) (hl' : ∀ p ∈ nx', p ∈ l') (hj : J nx) (hj' : J nx') : ∀ b ∈ fp, ∀ ob, h.get? b = some ob → h'.get? b = some ob := by
  intro b hb ob e
  rcases H b hb with rfl | ⟨x, hx⟩ | ⟨x, hx⟩
  · rw [(N _ hI).1] at e; cases e; exact (N' _ hI').1
  · rw [F.keep b x hx] at e; cases e; exact F'.keep b _ hx
  · rw [(N _ (hl _ (hx nx hj))).1] at e; cases e; exact (N' _ (hl' _ (hx nx' hj'))).1
inductive LoopInv (h₀ : Heap) (L I : Addr) (St : Nat → Heap → Prop) (J : Nat → (Str → Option Value) → List (Addr × Obj) → Prop) (n : Nat) (s : Shared) (k : Nat) (s' : Shared) : Prop
  | mk (i : Nat) (m₁ : Str → Option Value) (nx : List (Addr × Obj)) (h : Heap) (gs : Array GenState) (tk : Nat) (o' : Obj) : k = n - i → i ≤ n → s' = { s with heap := h, gens := gs, toks := tk } → St i h → J i m₁ nx → Fr h₀ L h m₁ → News h₀ L h ((I, o') :: nx) → LoopInv h₀ L I St J n s k s'
theorem loopJ {R : Result → Shared → Prop} {target : PySem.Expr} {body : List Stmt} {env : Env} (W : Walks prog w A I fp [I] n P St) (hobj : ∀ i h, St i h → ∃ o, h.get? I = some o)
    (hst : St 0 s.heap) (F : Fr h₀ L s.heap m) (N : News h₀ L s.heap ((I, o) :: nx₀)) (hI : ∀ p ∈ nx₀, p.1 ≠ I)
    (J : Nat → (Str → Option Value) → List (Addr × Obj) → Prop) (hj0 : J 0 m nx₀) (hadr : ∀ i m nx, J i m nx → ∀ p ∈ nx, ∃ q ∈ nx₀, q.1 = p.1) (hsty : Stays h₀ fp I (fun nx => ∃ i m, J i m nx))
    (turn : ∀ i v m₁ nx h gs tk o', i < n → P i v → J i m₁ nx → Fr h₀ L h m₁ → News h₀ L h ((I, o') :: nx) → ∀ E₁ E₂, wpAny (model prog w) A (assign target env v) (fun _ s₂ => wpAny (model prog w) A (execs body env) (TurnEnd h₀ L I o' (J (i + 1)) s R) E₁ s₂) E₂ { s with heap := h, gens := gs, toks := tk })
    (done : ∀ m₁ nx h gs tk, J n m₁ nx → Fr h₀ L h m₁ → News h₀ L h nx → R (.ok .next) { s with heap := h, gens := gs, toks := tk })
    (ht : ∀ v, letOwnedTupleGo target (.ref I) v = pure () := by intro _; rfl) :
    codeAny (model prog w) A (.forLoop target (.ref I) body [] env) R s := by
  have up : ∀ {h h₁ : Heap} {m₁ : Str → Option Value} {nx : List (Addr × Obj)} {o₁ : Obj} {i : Nat}, Fr h₀ L h m₁ → News h₀ L h ((I, o₁) :: nx) → J i m₁ nx → (∀ b o, b ∉ [I] → h.get? b = some o → h₁.get? b = some o) → Fr h₀ L h₁ m₁ ∧ News h₀ L h₁ nx := by
    intro h h₁ m₁ nx o₁ i F N hj hk
    have hIo := N _ (.head _)
    refine ⟨⟨F.ns.at' fun o e => hk L o (by simpa using hIo.2.1.symm) e, fun b x e => hk b x (fun q => by rw [List.mem_singleton.mp q, hIo.2.2] at e; cases e) (F.keep b x e), F.above⟩, fun p hp => ?_⟩
    have := N p (.tail _ hp)
    obtain ⟨q, hq, e⟩ := hadr _ _ _ hj p hp
    exact ⟨hk _ _ (by simpa using e ▸ hI q hq) this.1, this.2⟩
  refine codeAny_forLoop (LoopInv h₀ L I St J n s) ?_ n ⟨0, m, nx₀, s.heap, s.gens, s.toks, o, rfl, Nat.zero_le _, rfl, hst, hj0, F, N⟩ ht
  rintro k s' ⟨i, m₁, nx, h, gs, tk, o', rfl, hi, rfl, hst', hj, F', N'⟩
  have hIo := N' _ (.head _)
  by_cases hlt : i < n
  · refine W.item i _ _ _ hlt hst' fun v h₁ tk₁ hPv hst₁ hk₁ => ?_
    obtain ⟨o₁, ho₁⟩ := hobj _ _ hst₁
    obtain ⟨F₁, N₁⟩ := up F' N' hj hk₁
    have N₂ : News h₀ L h₁ ((I, o₁) :: nx) := fun p hp => by
      rcases List.mem_cons.mp hp with rfl | hp
      · exact ⟨ho₁, hIo.2⟩
      · exact N₁ p hp
    refine wpAny_mono (turn i v m₁ nx h₁ gs tk₁ o₁ hlt hPv hj F₁ N₂ _ _) (fun _ s₂ h₂ => wpAny_mono h₂ (fun f s₃ hf => ?_) fun _ _ e => e) fun _ _ e => e
    have key : (∃ h' gs tk m' nx', s₃ = { s with heap := h', gens := gs, toks := tk } ∧ Fr h₀ L h' m' ∧ News h₀ L h' ((I, o₁) :: nx') ∧ J (i + 1) m' nx') → ∃ m, m < n - i ∧ LoopInv h₀ L I St J n s m s₃ := by
      rintro ⟨h₄, gs₄, tk₄, m₄, nx₄, e, F₄, N₄, hj₄⟩
      refine ⟨n - (i + 1), by omega, i + 1, m₄, nx₄, h₄, gs₄, tk₄, o₁, rfl, hlt, e, ?_, hj₄, F₄, N₄⟩
      exact W.frame _ _ _ hst₁ (stays_frame hsty F₄ F₁ N₂ N₄ (.head _) (.head _) (fun p hp => .tail _ hp) (fun p hp => .tail _ hp) ⟨_, _, hj⟩ ⟨_, _, hj₄⟩)
    cases f with
    | next => exact key hf
    | cont => exact key hf
    | brk => exact hf
    | ret v => exact hf
  · have hin : i = n := by omega
    subst hin
    refine W.done _ _ _ hst' fun h₁ tk₁ hk₁ => wpAny_execs_nil ?_
    obtain ⟨F₁, N₁⟩ := up F' N' hj hk₁
    exact done m₁ nx h₁ gs tk₁ hj F₁ N₁
end
section
variable {prog : Program} {w : World} {A : Around} {E : Value → Shared → Prop} {s : Shared} {h₀ : Heap} {I : Addr} {m : Str → Option Value} {nx₀ : List (Addr × Obj)} {n : Nat} {fp : List Addr} {P : Nat → Value → Prop} {St : Nat → Heap → Prop} {o : Obj} {env : Env} {scope : Scope} {cl : List (Str × Addr)} {x : Str} {ifs : List PySem.Expr} {elt : PySem.Expr}
noncomputable def CompEnd (h₀ : Heap) (L : Addr) (m : Str → Option Value) (l : List (Addr × Obj)) (J : List (Addr × Obj) → Prop) (s s₅ : Shared) : Prop :=
  ∃ h' gs tk nx, s₅ = { s with heap := h', gens := gs, toks := tk } ∧ Fr h₀ L h' m ∧ News h₀ L h' (l ++ nx) ∧ J nx
inductive CompJ (prog : Program) (w : World) (A : Around) (env : Env) (scope : Scope) (cl : List (Str × Addr)) (x : Str) (ifs : List PySem.Expr) (elt : PySem.Expr) (Q : Value → Shared → Prop) (it : Value) (s : Shared) : Prop
  | mk (h₀ : Heap) (I : Addr) (m : Str → Option Value) (nx₀ : List (Addr × Obj)) (n : Nat) (fp : List Addr) (P : Nat → Value → Prop) (St : Nat → Heap → Prop) (o : Obj) (J : Nat → List Value → List (Addr × Obj) → Prop) : (it = .ref I) → (Walks prog w A I fp [I] n P St) → ((∀ i h, St i h → ∃ o, h.get? I = some o)) → (n ≤ sizeLine) → (St 0 s.heap) → (Fr h₀ env.locals s.heap m) → (News h₀ env.locals s.heap ((I, o) :: nx₀)) → ((∀ p ∈ nx₀, p.1 ≠ I)) → (J 0 [] nx₀) → ((∀ i ys nx, J i ys nx → ∀ p ∈ nx, ∃ q ∈ nx₀, q.1 = p.1)) → ((∀ i ys nx, J i ys nx → ys.length ≤ i)) → (Stays h₀ fp I (fun nx => ∃ i ys, J i ys nx)) → ((∀ i v ys nx D C nD oC o' h gs tk mC, i < n → P i v → J i ys nx → s.heap.objs.size ≤ D → D < C → h.Ns C mC → mC x = some v → Fr h₀ env.locals h m → News h₀ env.locals h ((D, listOf ys.toArray nD) :: (C, oC) :: (I, o') :: nx) → ∀ E₁ E₂, wpAny (model prog w) A (compTestsOf ifs (compEnvC scope cl C env)) (fun ok s₄ => if ok = true then wpAny (model prog w) A (eval elt (compEnvC scope cl C env)) (fun y s₅ => CompEnd h₀ env.locals m [(D, listOf ys.toArray nD), (C, oC), (I, o')] (J (i + 1) (ys ++ [y])) s s₅) E₂ s₄ else CompEnd h₀ env.locals m [(D, listOf ys.toArray nD), (C, oC), (I, o')] (J (i + 1) ys) s s₄) E₁ { s with heap := h, gens := gs, toks := tk })) → ((∀ D nD ys nx h gs tk, J n ys nx → s.heap.objs.size ≤ D → Fr h₀ env.locals h m → News h₀ env.locals h ((D, listOf ys.toArray nD) :: nx) → Q (.ref D) { s with heap := h, gens := gs, toks := tk })) → CompJ prog w A env scope cl x ifs elt Q it s
inductive CompInv (h₀ : Heap) (L I D C : Addr) (St : Nat → Heap → Prop) (J : Nat → List Value → List (Addr × Obj) → Prop) (n : Nat) (m : Str → Option Value) (s : Shared) (k : Nat) (s' : Shared) : Prop
  | mk (i : Nat) (ys : List Value) (nx : List (Addr × Obj)) (h : Heap) (gs : Array GenState) (tk : Nat) (o' oC : Obj) (mC : Str → Option Value) (nD : Nat) : k = n + 1 - i → i ≤ n → s' = { s with heap := h, gens := gs, toks := tk } → St i h → J i ys nx → Fr h₀ L h m → h.Ns C mC → News h₀ L h ((D, listOf ys.toArray nD) :: (C, oC) :: (I, o') :: nx) → CompInv h₀ L I D C St J n m s k s'
theorem compJ_loop {iter : PySem.Expr} {px pos : Pos} {D C : Addr} {R : Result → Shared → Prop} {J : Nat → List Value → List (Addr × Obj) → Prop} {h₁ : Heap} {tk₁ : Nat} {oC : Obj} {mC : Str → Option Value} (W : Walks prog w A I fp [I] n P St) (hobj : ∀ i h, St i h → ∃ o, h.get? I = some o) (hsz : n ≤ sizeLine)
    (hx : (compEnvC scope cl C env).kindOf x = some .local) (hp : ((compEnvC scope cl C env).scope.kind == .class || ((compEnvC scope cl C env).scope.kind == .module && (compEnvC scope cl C env).locals != (compEnvC scope cl C env).globals)) = false)
    (hD : s.heap.objs.size ≤ D) (hDC : D < C) (hIs : I < s.heap.objs.size) (hLC : C ≠ env.locals)
    (hst : St 0 h₁) (F : Fr h₀ env.locals h₁ m) (hnx : ∀ p ∈ nx₀, p.1 < s.heap.objs.size) (hIn : ∀ p ∈ nx₀, p.1 ≠ I) (N : News h₀ env.locals h₁ ((D, listOf #[] 0) :: (C, oC) :: (I, o) :: nx₀)) (hC : h₁.Ns C mC)
    (hj0 : J 0 [] nx₀) (hadr : ∀ i ys nx, J i ys nx → ∀ p ∈ nx, ∃ q ∈ nx₀, q.1 = p.1) (hlen : ∀ i ys nx, J i ys nx → ys.length ≤ i) (hsty : Stays h₀ fp I (fun nx => ∃ i ys, J i ys nx))
    (turn : ∀ i v ys nx D C nD oC o' h gs tk mC, i < n → P i v → J i ys nx → s.heap.objs.size ≤ D → D < C → h.Ns C mC → mC x = some v → Fr h₀ env.locals h m → News h₀ env.locals h ((D, listOf ys.toArray nD) :: (C, oC) :: (I, o') :: nx) → ∀ E₁ E₂,
      wpAny (model prog w) A (compTestsOf ifs (compEnvC scope cl C env)) (fun ok s₄ => if ok = true then wpAny (model prog w) A (eval elt (compEnvC scope cl C env)) (fun y s₅ => CompEnd h₀ env.locals m [(D, listOf ys.toArray nD), (C, oC), (I, o')] (J (i + 1) (ys ++ [y])) s s₅) E₂ s₄
        else CompEnd h₀ env.locals m [(D, listOf ys.toArray nD), (C, oC), (I, o')] (J (i + 1) ys) s s₄) E₁ { s with heap := h, gens := gs, toks := tk })
    (done : ∀ nD ys nx h gs tk oC mC, J n ys nx → Fr h₀ env.locals h m → h.Ns C mC → News h₀ env.locals h ((D, listOf ys.toArray nD) :: (C, oC) :: nx) → R (.ok .next) { s with heap := h, gens := gs, toks := tk }) :
    codeAny (model prog w) A (.compLoop (.ListComp elt [⟨.Name x px, iter, ifs, 0⟩] scope pos) 0 (.ref I) (.ref D) (compEnvC scope cl C env)) R { s with heap := h₁, toks := tk₁ } := by
  have hDI : D ≠ I := Nat.ne_of_gt (Nat.lt_of_lt_of_le hIs hD)
  have hCI : C ≠ I := Nat.ne_of_gt (Nat.lt_of_lt_of_le hIs (Nat.le_trans hD (Nat.le_of_lt hDC)))
  have hDC' : D ≠ C := Nat.ne_of_lt hDC
  have nxD : ∀ p ∈ nx₀, p.1 ≠ D := fun p hp => Nat.ne_of_lt (Nat.lt_of_lt_of_le (hnx p hp) hD)
  have nxC : ∀ p ∈ nx₀, p.1 ≠ C := fun p hp => Nat.ne_of_lt (Nat.lt_of_lt_of_le (hnx p hp) (Nat.le_trans hD (Nat.le_of_lt hDC)))
  refine codeAny_compLoop_tests (CompInv h₀ env.locals I D C St J n m s) ?_ (n + 1)
    ⟨0, [], nx₀, h₁, s.gens, tk₁, o, oC, mC, 0, rfl, Nat.zero_le _, rfl, hst, hj0, F, hC, N⟩
  rintro k s' ⟨i, ys, nx, h, gs, tk, o', oC, mC, nD, rfl, hi, rfl, hst', hj, F', hC', N'⟩
  have hDo := N' _ (.head _)
  have hCo := N' _ (.tail _ (.head _))
  have hIo := N' _ (.tail _ (.tail _ (.head _)))
  have hnd : ∀ p ∈ nx, p.1 ≠ I ∧ p.1 ≠ C ∧ p.1 ≠ D := fun p hp => by
    obtain ⟨q, hq, e⟩ := hadr _ _ _ hj p hp
    exact e ▸ ⟨hIn q hq, nxC q hq, nxD q hq⟩
  have up : ∀ {h₂ : Heap}, (∀ b o, b ∉ [I] → h.get? b = some o → h₂.get? b = some o) → Fr h₀ env.locals h₂ m ∧ h₂.Ns C mC ∧ News h₀ env.locals h₂ ((D, listOf ys.toArray nD) :: (C, oC) :: nx) := by
    intro h₂ hk
    refine ⟨⟨F'.ns.at' fun o e => hk env.locals o (by simpa using hIo.2.1.symm) e, fun b x e => hk b x (fun q => by rw [List.mem_singleton.mp q, hIo.2.2] at e; cases e) (F'.keep b x e), F'.above⟩, hC'.at' fun o e => hk C o (by simpa using hCI) e, fun p hp => ?_⟩
    rcases List.mem_cons.mp hp with rfl | hp
    · exact ⟨hk _ _ (by simpa using hDI) hDo.1, hDo.2⟩
    · rcases List.mem_cons.mp hp with rfl | hp
      · exact ⟨hk _ _ (by simpa using hCI) hCo.1, hCo.2⟩
      · have := N' p (.tail _ (.tail _ (.tail _ hp)))
        exact ⟨hk _ _ (by simpa using (hnd p hp).1) this.1, this.2⟩
  by_cases hlt : i < n
  · refine W.item i _ _ _ hlt hst' fun v h₂ tk₂ hPv hst₂ hk₂ => ?_
    obtain ⟨o₂, ho₂⟩ := hobj _ _ hst₂
    obtain ⟨F₂, hC₂, N₂⟩ := up hk₂
    refine wpAny_assign_Name (wpAny_storeName_local hx hC₂ (fun h₃ hn₃ hs₃ => ?_) hp)
    change h₃.Ns C _ at hn₃
    change Heap.SameBut C h₂ h₃ at hs₃
    obtain ⟨oC₃, hoC₃⟩ : ∃ o, h₃.get? C = some o := by obtain ⟨o, _, _, e, _⟩ := id hn₃; exact ⟨o, e⟩
    have F₃ : Fr h₀ env.locals h₃ m := ⟨F₂.ns.sameBut hs₃ hLC.symm, fun b x e => hs₃.extBut b x (fun q => by rw [q, hCo.2.2] at e; cases e) (F₂.keep b x e), F₂.above⟩
    have N₃ : News h₀ env.locals h₃ ((D, listOf ys.toArray nD) :: (C, oC₃) :: (I, o₂) :: nx) := fun p hp => by
      rcases List.mem_cons.mp hp with rfl | hp
      · exact ⟨hs₃.extBut _ _ hDC' (N₂ _ (.head _)).1, hDo.2⟩
      · rcases List.mem_cons.mp hp with rfl | hp
        · exact ⟨hoC₃, hCo.2⟩
        · rcases List.mem_cons.mp hp with rfl | hp
          · exact ⟨hs₃.extBut _ _ hCI.symm ho₂, hIo.2⟩
          · have := N₂ p (.tail _ (.tail _ hp))
            exact ⟨hs₃.extBut _ _ (hnd p hp).2.1 this.1, this.2⟩
    have hst₃ : St (i + 1) h₃ := W.frame _ _ _ hst₂ fun b hb ob e => by
      rcases hsty b hb with rfl | ⟨x, hx⟩ | ⟨x, hx⟩
      · exact hs₃.extBut _ _ hCI.symm e
      · rw [F₂.keep b x hx] at e; cases e; exact F₃.keep b _ hx
      · have hm := hx nx ⟨i, ys, hj⟩
        rw [(N₂ _ (.tail _ (.tail _ hm))).1] at e; cases e
        exact (N₃ _ (.tail _ (.tail _ (.tail _ hm)))).1
    have fin : ∀ {ys' : List Value} {nD' : Nat} {s₆ : Shared} {h₄ h₆ : Heap} {gs₄ : Array GenState} {tk₄ : Nat} {nx₄ : List (Addr × Obj)}, Fr h₀ env.locals h₄ m → News h₀ env.locals h₄ ((D, listOf ys.toArray nD) :: (C, oC₃) :: (I, o₂) :: nx₄) → J (i + 1) ys' nx₄ → s₆ = { s with heap := h₆, gens := gs₄, toks := tk₄ } → h₆.get? D = some (listOf ys'.toArray nD') → (∀ b o, b ≠ D → h₄.get? b = some o → h₆.get? b = some o) →
        ∃ m', m' < n + 1 - i ∧ CompInv h₀ env.locals I D C St J n m s m' s₆ := by
      intro ys' nD' s₆ h₄ h₆ gs₄ tk₄ nx₄ F₄ N₄ hj₄ e hD₆ hk
      have F₆ : Fr h₀ env.locals h₆ m := ⟨F₄.ns.at' fun o e => hk env.locals o hDo.2.1.symm e, fun b x e => hk b x (fun q => by rw [q, hDo.2.2] at e; cases e) (F₄.keep b x e), F₄.above⟩
      have hnd₄ : ∀ p ∈ nx₄, p.1 ≠ D := fun p hp => by
        obtain ⟨q, hq, e⟩ := hadr _ _ _ hj₄ p hp
        exact e ▸ nxD q hq
      have N₆ : News h₀ env.locals h₆ ((D, listOf ys'.toArray nD') :: (C, oC₃) :: (I, o₂) :: nx₄) := fun p hp => by
        rcases List.mem_cons.mp hp with rfl | hp
        · exact ⟨hD₆, hDo.2⟩
        · rcases List.mem_cons.mp hp with rfl | hp
          · exact ⟨hk _ _ hDC'.symm (N₄ _ (.tail _ (.head _))).1, hCo.2⟩
          · rcases List.mem_cons.mp hp with rfl | hp
            · exact ⟨hk _ _ hDI.symm (N₄ _ (.tail _ (.tail _ (.head _)))).1, hIo.2⟩
            · have := N₄ p (.tail _ (.tail _ (.tail _ hp)))
              exact ⟨hk _ _ (hnd₄ p hp) this.1, this.2⟩
      have nsC := hn₃.at' (h' := h₆) fun o e => by
        rw [hoC₃] at e; cases e
        exact (N₆ _ (.tail _ (.head _))).1
      refine ⟨n + 1 - (i + 1), by omega, i + 1, ys', nx₄, h₆, gs₄, tk₄, o₂, oC₃, _, nD', rfl, hlt, e, ?_, hj₄, F₆, nsC, N₆⟩
      · exact W.frame _ _ _ hst₃ (stays_frame hsty F₆ F₃ N₃ N₆ (.tail _ (.tail _ (.head _))) (.tail _ (.tail _ (.head _))) (fun p hp => .tail _ (.tail _ (.tail _ hp))) (fun p hp => .tail _ (.tail _ (.tail _ hp))) ⟨_, _, hj⟩ ⟨_, _, hj₄⟩)
    refine wpAny_mono (turn i v ys nx D C nD oC₃ o₂ h₃ gs _ _ hlt hPv hj hD hDC hn₃ (by simp) F₃ N₃ (notedBy (model prog w) A (compEnvC scope cl C env) fun e s' => R (.error e) s') (notedBy (model prog w) A (compEnvC scope cl C env) fun e s' => R (.error e) s')) (fun ok s₄ h₄ => ?_) fun _ _ e => e
    cases ok with
    | false =>
      simp only [Bool.false_eq_true, if_false] at h₄ ⊢
      obtain ⟨h', gs', tk', nx', e, F₄, N₄, hj₄⟩ := h₄
      exact fin F₄ N₄ hj₄ e (N₄ _ (.head _)).1 fun _ _ _ e => e
    | true =>
      simp only [if_true] at h₄ ⊢
      refine wpAny_mono h₄ (fun y s₅ h₅ => ?_) fun _ _ e => e
      obtain ⟨h', gs', tk', nx', rfl, F₄, N₄, hj₄⟩ := h₅
      refine wpAny_list_append_plain (items := ys.toArray) (hsz := by have := hlen _ _ _ hj; simp only [List.size_toArray]; omega) ⟨nD, (N₄ _ (.head _)).1⟩ fun h₆ hl₆ hs₆ => ?_
      · obtain ⟨nD', hD₆⟩ := hl₆
        exact fin (ys' := ys ++ [y]) (nD' := nD') F₄ N₄ hj₄ rfl (by rw [hD₆]; simp) fun b o hb e => hs₆.extBut b o hb e
  · have hin : i = n := by omega
    subst hin
    refine W.done _ _ _ hst' fun h₂ tk₂ hk₂ => ?_
    obtain ⟨F₂, hC₂, N₂⟩ := up hk₂
    exact done nD ys nx h₂ gs tk₂ oC mC hj F₂ hC₂ N₂
theorem compJ_eval {iter : PySem.Expr} {px pos : Pos} {Q : Value → Shared → Prop}
    (hclos : closureFor scope env = pure cl) (hcell : ∀ y ∈ scope.names, y.2 ≠ .cell) (hkind : scope.kind = .function)
    (hnames : ∀ y ∈ scope.names, y.2 = .local → scope.names.lookup y.1 = some .local) (hx : scope.names.lookup x = some .local)
    (h : wpAny (model prog w) A (eval iter env) (fun xv s₁ => wpAny (model prog w) A (pyIter xv) (fun it s₂ => CompJ prog w A env scope cl x ifs elt Q it s₂) E s₁) E s)
    (hs : ∀ x, foldedSetIterable iter env x = pure x := by intro _; rfl) :
    wpAny (model prog w) A (eval (.ListComp elt [⟨.Name x px, iter, ifs, 0⟩] scope pos) env) Q E s := by
  rw [eval_ListComp]
  refine wpAny_comprehension_free (use := none) rfl hs hclos hkind hnames (wpAny_mono h (fun xv s₁ h₁ => wpAny_mono h₁ (fun it s₂ h₂ => ?_) fun _ _ e => e) fun _ _ e => e)
  obtain ⟨h₀, I, m, nx₀, n, fp, P, St, o, J, rfl, W, hobj, hsz, hst, F, N, hIn, hj0, hadr, hlen, hsty, turn, done⟩ := h₂
  refine wpAny_newObj_type (wpAny_newFunctionEnv hcell (by intro y hy; simp at hy) (fun h₁ hns₁ hsb₁ => ?_) hkind)
  dsimp only at hns₁ hsb₁ ⊢
  have N₁ := News.push F N (listOf #[] 0)
  have F₁ := F.push (listOf #[] 0)
  generalize hH2 : s₂.heap.push { cls := .type "list", dict := none, data := .seq ([] : List Value).toArray } = H2 at hns₁ hsb₁ ⊢
  change s₂.heap.push (listOf #[] 0) = H2 at hH2
  rw [hH2] at N₁ F₁
  have hC : H2.objs.size = s₂.heap.objs.size + 1 := by rw [← hH2, Heap.size_push]
  have hDC : s₂.heap.objs.size < H2.objs.size := by rw [hC]; exact Nat.lt_succ_self _
  have hLC : H2.objs.size ≠ env.locals := Nat.ne_of_gt F₁.ns.lt
  have hC0 : h₀.get? H2.objs.size = none := next_is_new F₁
  have old : ∀ b o, H2.get? b = some o → h₁.get? b = some o := fun b o e => hsb₁.extBut b o (Nat.ne_of_lt (Heap.lt_size e)) (Heap.get?_push_of_some _ e)
  obtain ⟨oC, hoC⟩ : ∃ o, h₁.get? H2.objs.size = some o := by obtain ⟨o, _, _, e, _⟩ := id hns₁; exact ⟨o, e⟩
  have F₂ := F₁.keeps old
  have N₂ := N₁.grown old
  have N₃ : News h₀ env.locals h₁ ((s₂.heap.objs.size, listOf #[] 0) :: (H2.objs.size, oC) :: (I, o) :: nx₀) := fun p hp => by
    rcases List.mem_cons.mp hp with rfl | hp
    · exact N₂ _ (.head _)
    · rcases List.mem_cons.mp hp with rfl | hp
      · exact ⟨hoC, hLC, hC0⟩
      · exact N₂ _ (.tail _ hp)
  have hst₁ : St 0 h₁ := W.frame _ _ _ hst fun b _ o e => old b o (hH2 ▸ Heap.get?_push_of_some _ e)
  have loop : ∀ s₃ : Shared, s₃ = { s₂ with heap := h₁, toks := s₂.toks + ([] : List (Str × Value)).length } →
      codeAny (model prog w) A (.compLoop (.ListComp elt [⟨.Name x px, iter, ifs, 0⟩] scope pos) 0 (.ref I) (.ref s₂.heap.objs.size) (compEnvC scope cl H2.objs.size env))
        (compPost (model prog w) A E none Q (.ref s₂.heap.objs.size) H2.objs.size) s₃ := by
    rintro s₃ rfl
    refine compJ_loop (s := s₂) W hobj hsz (lookup_relabel_local hx) (by simp [compEnvC, relabel, hkind]) (Nat.le_refl _) hDC (Heap.lt_size (N _ (.head _)).1) hLC hst₁ F₂ (fun p hp => Heap.lt_size (N p (.tail _ hp)).1) hIn N₃ hns₁ hj0 hadr hlen hsty turn fun nD ys nx h gs tk oC mC hj F' hC' N' => ?_
    refine ⟨mC, hC', fun h'' hs'' => ?_⟩
    refine done _ nD ys nx _ _ _ hj (Nat.le_refl _) ⟨F'.ns.sameBut hs'' hLC.symm, fun b x e => hs''.extBut b x (fun q => by rw [q, hC0] at e; cases e) (F'.keep b x e), F'.above⟩ fun p hp => ?_
    have hpC : p.1 ≠ H2.objs.size := by
      rcases List.mem_cons.mp hp with rfl | hp
      · exact Nat.ne_of_lt hDC
      · obtain ⟨q, hq, e⟩ := hadr _ _ _ hj p hp
        exact e ▸ Nat.ne_of_lt (Nat.lt_trans (Heap.lt_size (N q (.tail _ hq)).1) hDC)
    have := N' p ((List.mem_cons.mp hp).elim (fun e => e ▸ .head _) fun hp => .tail _ (.tail _ hp))
    exact ⟨hs''.extBut _ _ hpC this.1, this.2⟩
  exact codeAny_compStart_list (loop _ rfl) (W.self 0 _ _ _ hst₁ (loop _ rfl))
end
local macro_rules | `(tactic| omega) => `(tactic| k_extra "omega")
theorem rg_ConW_0 : True := by
  k_with_none
  (k_with "omega" => (first | lia))
  trivial
theorem pre_back {h₀ h h' : Heap} {L : Addr} {pre R R' : List (Addr × Obj)} {mu : List Addr} (N : News h₀ L h (pre ++ R)) (x : ExtBut mu h h') (ha : ∀ p ∈ pre, p.1 ∉ mu) (N' : News h₀ L h' R') : News h₀ L h' (pre ++ R') := by
  intro p hp
  rcases List.mem_append.mp hp with hp | hp
  · have n := N p (List.mem_append.mpr (.inl hp))
    exact ⟨x _ _ (ha p hp) n.1, n.2⟩
  · exact N' p hp
theorem lexWord_len : ∀ (n : Nat) (acc cs : List Nat), cs.length ≤ n → (lexWord acc cs).1.length + (lexWord acc cs).2.length ≤ acc.length + cs.length
  | _, acc, [], _ => by unfold lexWord; simp
  | 0, acc, c :: cs, h => by simp at h
  | n + 1, acc, c :: cs, h => by
    unfold lexWord
    simp only [List.length_cons] at h ⊢
    cases isWs c
    · cases c == 92
      · have := lexWord_len n (acc ++ [c]) cs (by omega)
        simp at this ⊢; omega
      · cases cs with
        | nil => simp
        | cons d cs =>
          simp only [List.length_cons] at h ⊢
          have := lexWord_len n (acc ++ [d]) cs (by omega)
          simp at this ⊢; omega
    · simp
theorem lexMarks_len : ∀ (n : Nat) (acc cs : List Nat), cs.length ≤ n → (lexMarks acc cs).1.length + (lexMarks acc cs).2.length ≤ acc.length + cs.length
  | _, acc, [], _ => by unfold lexMarks; simp
  | 0, acc, c :: cs, h => by simp at h
  | n + 1, acc, c :: cs, h => by
    unfold lexMarks
    simp only [List.length_cons] at h ⊢
    cases c == 34
    · cases c == 92
      · have := lexMarks_len n (acc ++ [c]) cs (by omega)
        simp at this ⊢; omega
      · cases cs with
        | nil => simp
        | cons d cs =>
          simp only [List.length_cons] at h ⊢
          have := lexMarks_len n (acc ++ [d]) cs (by omega)
          simp at this ⊢; omega
    · simp
theorem lexTok_len (cs : List Nat) : (lexTok cs).1.length + (lexTok cs).2.length ≤ cs.length := by
  induction cs with
  | nil => unfold lexTok; simp
  | cons c cs ih =>
    unfold lexTok
    simp only [List.length_cons]
    cases isWs c
    · cases c == 34
      · cases c == 92
        · have := lexWord_len cs.length [c] cs (Nat.le_refl _)
          simp at this ⊢; omega
        · cases cs with
          | nil => simp
          | cons d cs =>
            have := lexWord_len cs.length [d] cs (Nat.le_refl _)
            simp at this ⊢; omega
      · have := lexMarks_len cs.length [] cs (Nat.le_refl _)
        simp at this ⊢; omega
    · simp; omega
theorem vals_of_strs : ∀ {zs : List Value} {l : List Nat}, StrsAre zs (l.map fun c => ⟨#[c]⟩) → ∃ cs : List (Nat × Tok), zs = valsOf cs ∧ cs.map Prod.fst = l
  | [], [], .nil => ⟨[], rfl, rfl⟩
  | _ :: _, c :: l, .cons _ t h => by
    obtain ⟨cs, rfl, e⟩ := vals_of_strs h
    exact ⟨(c, t) :: cs, rfl, by simp [e]⟩
section
variable {w : World} {q : Program} {mean : ExcName → Option Value} {mg mb : Str → Option Value} {loose : List Str} {tail pre : List (Addr × Obj)} {r : Rd} {ln : Int} {tl : Tok} {np nz : Nat} {pv : List Value} {zs : List (Nat × Tok)}
  {dp un : Nat} {gd : Option (List Code)} {cn : Str} {cs : Scope} {a : Addr} {ccd : Value} {cl : List (Str × Addr)} {outer : List Env} {A₀ : Around} {base h₀ : Heap} {L : Addr} {m : Str → Option Value} {s : Shared} {E : Value → Shared → Prop}
structure RdAt (r : Rd) (tail : List (Addr × Obj)) : Prop where
  ok : r.Ok
  offl : TailOff r.l tail
  offd : TailOff r.dr tail
  offp : TailOff r.pr tail
  ccl : neN' r.cc r.l
  ccd : neN' r.cc r.dr
  ccp : neN' r.cc r.pr
noncomputable def OffRd (r : Rd) (pre : List (Addr × Obj)) : Prop := ∀ p ∈ pre, p.1 ≠ r.l ∧ p.1 ≠ r.dr ∧ p.1 ≠ r.pr
theorem g_tokP {Q : Value → Shared → Prop} (F : Fr h₀ L s.heap m) (N : News h₀ L s.heap (pre ++ ((r.pr, listOf [].toArray np) :: (r.xr, instObj 73 r.dr) :: (r.dr, r.lex w.params ln tl) :: (r.f, lamObj r.cL r.cc r.pm r.ctv) :: (r.cc, r.oc) :: (r.ps, listOf #[] 0) :: (r.xs, instObj 73 r.ds) :: (r.ds, r.str w.params) :: (r.l, listOf (valsOf zs).reverse.toArray nz) :: (r.cL, r.oC) :: tail)))
    (W : RdAt r tail) (hp : OffRd r pre) (hz : zs.length ≤ 1000) (B : Below A₀ base outer h₀) (X : (K0 w.params).In h₀) (T : Top q loose mean mg mb h₀) (hk : cs.kind = .function) (hd : dp + 5 < recursionLimit) (hu : un + 64 * 5 < cLine)
    (h : ∀ acc t zs' ln' tl' nz' h' tk', lexTok (zs.map Prod.fst) = (acc, zs'.map Prod.fst) → zs'.length + acc.length ≤ zs.length → Fr h₀ L h' m → News h₀ L h' (pre ++ ((r.pr, listOf [].toArray np) :: (r.xr, instObj 73 r.dr) :: (r.dr, r.lex w.params ln' tl') :: (r.f, lamObj r.cL r.cc r.pm r.ctv) :: (r.cc, r.oc) :: (r.ps, listOf #[] 0) :: (r.xs, instObj 73 r.ds) :: (r.ds, r.str w.params) :: (r.l, listOf (valsOf zs').reverse.toArray nz') :: (r.cL, r.oC) :: tail)) → ExtBut [r.l, r.dr] s.heap h' → Q (.str ⟨acc.toArray⟩ t) { s with heap := h', toks := tk' }) :
    wpAny (model rw_sn0078_01.row.prog w) (ktrTop dp un gd cn cs L a ccd cl outer) (call (.ref 63) [.ref r.xr]) Q E s := by
  refine wpAny_call (c_token w q mean mg mb loose tail r ln tl np nz zs dp un gd cn cs a ccd cl outer A₀ base h₀ L m s Q E B F X (fun p hp => N p (List.mem_append.mpr (.inr hp))) T hk ⟨W.ok, hz, W.offl, W.offd, W.ccl, W.ccd⟩ hd hu ?_)
  rintro v news' h' tk' ⟨acc, t, zs', ln', tl', nz', rfl, hx, hle, rfl⟩ F' N' x
  refine h acc t zs' ln' tl' nz' h' tk' hx ?_ F' (pre_back N x (fun p h => by simp [(hp p h).1, (hp p h).2.1]) N') x
  have := lexTok_len (zs.map Prod.fst)
  rw [hx] at this
  simpa [Nat.add_comm] using this
theorem g_popP {v : Value} {zl : List Value} {Q : Value → Shared → Prop} (F : Fr h₀ L s.heap m) (N : News h₀ L s.heap (pre ++ ((r.pr, listOf (v :: pv).toArray np) :: (r.xr, instObj 73 r.dr) :: (r.dr, r.lex w.params ln tl) :: (r.f, lamObj r.cL r.cc r.pm r.ctv) :: (r.cc, r.oc) :: (r.ps, listOf #[] 0) :: (r.xs, instObj 73 r.ds) :: (r.ds, r.str w.params) :: (r.l, listOf zl.toArray nz) :: (r.cL, r.oC) :: tail)))
    (W : RdAt r tail) (hp : OffRd r pre) (hz : pv.length ≤ 1000) (B : Below A₀ base outer h₀) (X : (K0 w.params).In h₀) (T : Top q loose mean mg mb h₀) (hk : cs.kind = .function) (hd : dp + 2 < recursionLimit) (hu : un + 64 * 2 < cLine)
    (h : ∀ h' tk', Fr h₀ L h' m → News h₀ L h' (pre ++ ((r.pr, listOf pv.toArray (np + 1)) :: (r.xr, instObj 73 r.dr) :: (r.dr, r.lex w.params ln tl) :: (r.f, lamObj r.cL r.cc r.pm r.ctv) :: (r.cc, r.oc) :: (r.ps, listOf #[] 0) :: (r.xs, instObj 73 r.ds) :: (r.ds, r.str w.params) :: (r.l, listOf zl.toArray nz) :: (r.cL, r.oC) :: tail)) → ExtBut [r.pr] s.heap h' → Q v { s with heap := h', toks := tk' }) :
    wpAny (model rw_sn0078_01.row.prog w) (ktrTop dp un gd cn cs L a ccd cl outer) (call (.ref 63) [.ref r.xr]) Q E s := by
  refine wpAny_call (c_tokenPop w q mean mg mb loose tail r ln tl v pv np nz zl dp un gd cn cs a ccd cl outer A₀ base h₀ L m s Q E B F X (fun p hp => N p (List.mem_append.mpr (.inr hp))) T hk ⟨W.ok, hz, W.offp, W.ccp⟩ hd hu ?_)
  rintro v' news' h' tk' ⟨rfl, rfl⟩ F' N' x
  exact h h' tk' F' (pre_back N x (fun p h => by simp [(hp p h).2.2]) N') x
theorem g_pushP {v : Value} {zl : List Value} {Q : Value → Shared → Prop} (F : Fr h₀ L s.heap m) (N : News h₀ L s.heap (pre ++ ((r.pr, listOf pv.toArray np) :: (r.xr, instObj 73 r.dr) :: (r.dr, r.lex w.params ln tl) :: (r.f, lamObj r.cL r.cc r.pm r.ctv) :: (r.cc, r.oc) :: (r.ps, listOf #[] 0) :: (r.xs, instObj 73 r.ds) :: (r.ds, r.str w.params) :: (r.l, listOf zl.toArray nz) :: (r.cL, r.oC) :: tail)))
    (W : RdAt r tail) (hp : OffRd r pre) (hz : pv.length ≤ 1000) (B : Below A₀ base outer h₀) (X : (K0 w.params).In h₀) (T : Top q loose mean mg mb h₀) (hk : cs.kind = .function) (hd : dp + 2 < recursionLimit) (hu : un + 64 * 2 < cLine)
    (h : ∀ h' tk', Fr h₀ L h' m → News h₀ L h' (pre ++ ((r.pr, listOf (pv ++ [v]).toArray (np + 1)) :: (r.xr, instObj 73 r.dr) :: (r.dr, r.lex w.params ln tl) :: (r.f, lamObj r.cL r.cc r.pm r.ctv) :: (r.cc, r.oc) :: (r.ps, listOf #[] 0) :: (r.xs, instObj 73 r.ds) :: (r.ds, r.str w.params) :: (r.l, listOf zl.toArray nz) :: (r.cL, r.oC) :: tail)) → ExtBut [r.pr] s.heap h' → Q .none { s with heap := h', toks := tk' }) :
    wpAny (model rw_sn0078_01.row.prog w) (ktrTop dp un gd cn cs L a ccd cl outer) (call (.ref 70) [.ref r.xr, v]) Q E s := by
  refine wpAny_call (c_push w q mean mg mb loose tail r ln tl v pv np nz zl dp un gd cn cs a ccd cl outer A₀ base h₀ L m s Q E B F X (fun p hp => N p (List.mem_append.mpr (.inr hp))) T hk ⟨W.ok, hz, W.offp, W.ccp⟩ hd hu ?_)
  rintro v' news' h' tk' ⟨rfl, rfl⟩ F' N' x
  exact h h' tk' F' (pre_back N x (fun p h => by simp [(hp p h).2.2]) N') x
theorem tail_off {c : Nat} {l : List (Addr × Obj)} (h : AllLt c l) {d : Addr} (hd : @LE.le Nat _ c d) : TailOff d l := ⟨TailLt.ne (TailLt.mk h) hd⟩
theorem TailOff.cons {c : Addr} {p : Addr × Obj} {l : List (Addr × Obj)} (h : TailOff c l) (hp : p.1 ≠ c) : TailOff c (p :: l) := ⟨fun q hq => (List.mem_cons.mp hq).elim (fun e => e ▸ hp) fun hq => h.ne q hq⟩
theorem g_makeA {x : Str} {tx : Tok} {Q : Value → Shared → Prop} (F : Fr h₀ L s.heap m) (N : News h₀ L s.heap ((167, tabObj #[]) :: tail)) (hx : x.length ≤ 1000) (ht : TailOff 167 tail) (B : Below A₀ base outer h₀) (X : (K0 w.params).In h₀) (T : Top q loose mean mg mb h₀) (hk : cs.kind = .function) (hd : dp + 2 < recursionLimit) (hu : un + 64 * 2 < cLine)
    (h : ∀ (r : Rd) tl zs nz h' tk', RdAt r ((167, tabObj #[rawInt 187, rawInt 18, .ref r.cc]) :: tail) → zs.map Prod.fst = x.cps.toList → AllLt r.cL ((167, tabObj #[]) :: tail) → @LT.lt Nat _ r.ps r.cc → @LT.lt Nat _ r.cc r.f → Fr h₀ L h' m →
      News h₀ L h' ((r.pr, listOf [].toArray 0) :: (r.xr, instObj 73 r.dr) :: (r.dr, r.lex w.params 1 tl) :: (r.f, lamObj r.cL r.cc r.pm r.ctv) :: (r.cc, r.oc) :: (r.ps, listOf #[] 0) :: (r.xs, instObj 73 r.ds) :: (r.ds, r.str w.params) :: (r.l, listOf (valsOf zs).reverse.toArray nz) :: (r.cL, r.oC) :: (167, tabObj #[rawInt 187, rawInt 18, .ref r.cc]) :: tail) → ExtBut [167] s.heap h' → Q (.ref r.xr) { s with heap := h', toks := tk' }) :
    wpAny (model rw_sn0078_01.row.prog w) (ktrTop dp un gd cn cs L a ccd cl outer) (call (.ref 172) [.str x tx]) Q E s := by
  refine wpAny_call (c_readerA w q mean mg mb loose tail x tx dp un gd cn cs a ccd cl outer A₀ base h₀ L m s Q E B F X N T hk ⟨hx, ht⟩ hd hu ?_)
  rintro v news' h' tk' ⟨r, tl, zs, n, ok, rfl, rfl, hs, hal, c1, c2⟩ F' N' x'
  obtain ⟨cs', rfl, e⟩ := vals_of_strs hs
  have o := ok
  obtain ⟨_, _, _, o1, o2, o3, o4, o5, o6, o7, o8⟩ := o
  have lo : ∀ {d : Addr}, @LE.le Nat _ r.cL d → TailOff d ((167, tabObj #[rawInt 187, rawInt 18, .ref r.cc]) :: tail) := fun hd => tail_off (c := r.cL) (show AllLt r.cL ((167, tabObj #[rawInt 187, rawInt 18, .ref r.cc]) :: tail) from hal) hd
  refine h r tl cs' n h' tk' ⟨ok, lo (by omega), lo (by omega), lo (by omega), ?_, ?_, ?_⟩ e hal c1 c2 F' N' x'
  · exact Nat.ne_of_gt (by omega)
  · exact Nat.ne_of_lt (by omega)
  · exact Nat.ne_of_lt (by omega)
theorem g_makeA1 {c : Addr × Obj} {x : Str} {tx : Tok} {Q : Value → Shared → Prop} (F : Fr h₀ L s.heap m) (N : News h₀ L s.heap (c :: (167, tabObj #[]) :: tail)) (hx : x.length ≤ 1000) (ht : TailOff 167 tail) (hc : neN' c.1 167) (B : Below A₀ base outer h₀) (X : (K0 w.params).In h₀) (T : Top q loose mean mg mb h₀) (hk : cs.kind = .function) (hd : dp + 2 < recursionLimit) (hu : un + 64 * 2 < cLine)
    (h : ∀ (r : Rd) tl zs nz h' tk', RdAt r ((167, tabObj #[rawInt 187, rawInt 18, .ref r.cc]) :: c :: tail) → zs.map Prod.fst = x.cps.toList → @LT.lt Nat _ 167 r.cL → @LT.lt Nat _ c.1 r.cL → TailLt r.cL tail → @LT.lt Nat _ r.ps r.cc → @LT.lt Nat _ r.cc r.f → Fr h₀ L h' m →
      News h₀ L h' ((r.pr, listOf [].toArray 0) :: (r.xr, instObj 73 r.dr) :: (r.dr, r.lex w.params 1 tl) :: (r.f, lamObj r.cL r.cc r.pm r.ctv) :: (r.cc, r.oc) :: (r.ps, listOf #[] 0) :: (r.xs, instObj 73 r.ds) :: (r.ds, r.str w.params) :: (r.l, listOf (valsOf zs).reverse.toArray nz) :: (r.cL, r.oC) :: (167, tabObj #[rawInt 187, rawInt 18, .ref r.cc]) :: c :: tail) → ExtBut [167] s.heap h' → Q (.ref r.xr) { s with heap := h', toks := tk' }) :
    wpAny (model rw_sn0078_01.row.prog w) (ktrTop dp un gd cn cs L a ccd cl outer) (call (.ref 172) [.str x tx]) Q E s :=
  g_makeA F (fun p hp => N p (by
    rcases List.mem_cons.mp hp with rfl | hp
    · exact .tail _ (.head _)
    · rcases List.mem_cons.mp hp with rfl | hp
      · exact .head _
      · exact .tail _ (.tail _ hp))) hx (ht.cons hc) B X T hk hd hu fun r tl zs nz h' tk' W e al => h r tl zs nz h' tk' W e al.1 al.2.1 ⟨al.2.2⟩
theorem g_tok1 {p1 : Addr × Obj} {Q : Value → Shared → Prop} (F : Fr h₀ L s.heap m) (N : News h₀ L s.heap (p1 :: (r.pr, listOf [].toArray np) :: (r.xr, instObj 73 r.dr) :: (r.dr, r.lex w.params ln tl) :: (r.f, lamObj r.cL r.cc r.pm r.ctv) :: (r.cc, r.oc) :: (r.ps, listOf #[] 0) :: (r.xs, instObj 73 r.ds) :: (r.ds, r.str w.params) :: (r.l, listOf (valsOf zs).reverse.toArray nz) :: (r.cL, r.oC) :: tail))
    (W : RdAt r tail) (q1 : @LT.lt Nat _ r.pr p1.1) (hz : zs.length ≤ 1000) (B : Below A₀ base outer h₀) (X : (K0 w.params).In h₀) (T : Top q loose mean mg mb h₀) (hk : cs.kind = .function) (hd : dp + 5 < recursionLimit) (hu : un + 64 * 5 < cLine)
    (h : ∀ acc t zs' ln' tl' nz' h' tk', lexTok (zs.map Prod.fst) = (acc, zs'.map Prod.fst) → zs'.length + acc.length ≤ zs.length → Fr h₀ L h' m → News h₀ L h' (p1 :: (r.pr, listOf [].toArray np) :: (r.xr, instObj 73 r.dr) :: (r.dr, r.lex w.params ln' tl') :: (r.f, lamObj r.cL r.cc r.pm r.ctv) :: (r.cc, r.oc) :: (r.ps, listOf #[] 0) :: (r.xs, instObj 73 r.ds) :: (r.ds, r.str w.params) :: (r.l, listOf (valsOf zs').reverse.toArray nz') :: (r.cL, r.oC) :: tail) → ExtBut [r.l, r.dr] s.heap h' → Q (.str ⟨acc.toArray⟩ t) { s with heap := h', toks := tk' }) :
    wpAny (model rw_sn0078_01.row.prog w) (ktrTop dp un gd cn cs L a ccd cl outer) (call (.ref 63) [.ref r.xr]) Q E s :=
  g_tokP (pre := [p1]) F N W (fun p hp => by
    simp only [List.mem_cons, List.not_mem_nil, or_false] at hp
    obtain ⟨⟨_, _, _, o1, o2, o3, o4, o5, o6, o7, o8⟩, _⟩ := W
    subst hp <;> exact ⟨Nat.ne_of_gt (by omega), Nat.ne_of_gt (by omega), Nat.ne_of_gt (by omega)⟩) hz B X T hk hd hu h
theorem g_pop1 {p1 : Addr × Obj} {v : Value} {zl : List Value} {Q : Value → Shared → Prop} (F : Fr h₀ L s.heap m) (N : News h₀ L s.heap (p1 :: (r.pr, listOf (v :: pv).toArray np) :: (r.xr, instObj 73 r.dr) :: (r.dr, r.lex w.params ln tl) :: (r.f, lamObj r.cL r.cc r.pm r.ctv) :: (r.cc, r.oc) :: (r.ps, listOf #[] 0) :: (r.xs, instObj 73 r.ds) :: (r.ds, r.str w.params) :: (r.l, listOf zl.toArray nz) :: (r.cL, r.oC) :: tail))
    (W : RdAt r tail) (q1 : @LT.lt Nat _ r.pr p1.1) (hz : pv.length ≤ 1000) (B : Below A₀ base outer h₀) (X : (K0 w.params).In h₀) (T : Top q loose mean mg mb h₀) (hk : cs.kind = .function) (hd : dp + 2 < recursionLimit) (hu : un + 64 * 2 < cLine)
    (h : ∀ h' tk', Fr h₀ L h' m → News h₀ L h' (p1 :: (r.pr, listOf pv.toArray (np + 1)) :: (r.xr, instObj 73 r.dr) :: (r.dr, r.lex w.params ln tl) :: (r.f, lamObj r.cL r.cc r.pm r.ctv) :: (r.cc, r.oc) :: (r.ps, listOf #[] 0) :: (r.xs, instObj 73 r.ds) :: (r.ds, r.str w.params) :: (r.l, listOf zl.toArray nz) :: (r.cL, r.oC) :: tail) → ExtBut [r.pr] s.heap h' → Q v { s with heap := h', toks := tk' }) :
    wpAny (model rw_sn0078_01.row.prog w) (ktrTop dp un gd cn cs L a ccd cl outer) (call (.ref 63) [.ref r.xr]) Q E s :=
  g_popP (pre := [p1]) F N W (fun p hp => by
    simp only [List.mem_cons, List.not_mem_nil, or_false] at hp
    obtain ⟨⟨_, _, _, o1, o2, o3, o4, o5, o6, o7, o8⟩, _⟩ := W
    subst hp <;> exact ⟨Nat.ne_of_gt (by omega), Nat.ne_of_gt (by omega), Nat.ne_of_gt (by omega)⟩) hz B X T hk hd hu h
theorem g_push1 {p1 : Addr × Obj} {v : Value} {zl : List Value} {Q : Value → Shared → Prop} (F : Fr h₀ L s.heap m) (N : News h₀ L s.heap (p1 :: (r.pr, listOf pv.toArray np) :: (r.xr, instObj 73 r.dr) :: (r.dr, r.lex w.params ln tl) :: (r.f, lamObj r.cL r.cc r.pm r.ctv) :: (r.cc, r.oc) :: (r.ps, listOf #[] 0) :: (r.xs, instObj 73 r.ds) :: (r.ds, r.str w.params) :: (r.l, listOf zl.toArray nz) :: (r.cL, r.oC) :: tail))
    (W : RdAt r tail) (q1 : @LT.lt Nat _ r.pr p1.1) (hz : pv.length ≤ 1000) (B : Below A₀ base outer h₀) (X : (K0 w.params).In h₀) (T : Top q loose mean mg mb h₀) (hk : cs.kind = .function) (hd : dp + 2 < recursionLimit) (hu : un + 64 * 2 < cLine)
    (h : ∀ h' tk', Fr h₀ L h' m → News h₀ L h' (p1 :: (r.pr, listOf (pv ++ [v]).toArray (np + 1)) :: (r.xr, instObj 73 r.dr) :: (r.dr, r.lex w.params ln tl) :: (r.f, lamObj r.cL r.cc r.pm r.ctv) :: (r.cc, r.oc) :: (r.ps, listOf #[] 0) :: (r.xs, instObj 73 r.ds) :: (r.ds, r.str w.params) :: (r.l, listOf zl.toArray nz) :: (r.cL, r.oC) :: tail) → ExtBut [r.pr] s.heap h' → Q .none { s with heap := h', toks := tk' }) :
    wpAny (model rw_sn0078_01.row.prog w) (ktrTop dp un gd cn cs L a ccd cl outer) (call (.ref 70) [.ref r.xr, v]) Q E s :=
  g_pushP (pre := [p1]) F N W (fun p hp => by
    simp only [List.mem_cons, List.not_mem_nil, or_false] at hp
    obtain ⟨⟨_, _, _, o1, o2, o3, o4, o5, o6, o7, o8⟩, _⟩ := W
    subst hp <;> exact ⟨Nat.ne_of_gt (by omega), Nat.ne_of_gt (by omega), Nat.ne_of_gt (by omega)⟩) hz B X T hk hd hu h
theorem g_tok2 {p1 p2 : Addr × Obj} {Q : Value → Shared → Prop} (F : Fr h₀ L s.heap m) (N : News h₀ L s.heap (p1 :: p2 :: (r.pr, listOf [].toArray np) :: (r.xr, instObj 73 r.dr) :: (r.dr, r.lex w.params ln tl) :: (r.f, lamObj r.cL r.cc r.pm r.ctv) :: (r.cc, r.oc) :: (r.ps, listOf #[] 0) :: (r.xs, instObj 73 r.ds) :: (r.ds, r.str w.params) :: (r.l, listOf (valsOf zs).reverse.toArray nz) :: (r.cL, r.oC) :: tail))
    (W : RdAt r tail) (q1 : @LT.lt Nat _ r.pr p1.1) (q2 : @LT.lt Nat _ r.pr p2.1) (hz : zs.length ≤ 1000) (B : Below A₀ base outer h₀) (X : (K0 w.params).In h₀) (T : Top q loose mean mg mb h₀) (hk : cs.kind = .function) (hd : dp + 5 < recursionLimit) (hu : un + 64 * 5 < cLine)
    (h : ∀ acc t zs' ln' tl' nz' h' tk', lexTok (zs.map Prod.fst) = (acc, zs'.map Prod.fst) → zs'.length + acc.length ≤ zs.length → Fr h₀ L h' m → News h₀ L h' (p1 :: p2 :: (r.pr, listOf [].toArray np) :: (r.xr, instObj 73 r.dr) :: (r.dr, r.lex w.params ln' tl') :: (r.f, lamObj r.cL r.cc r.pm r.ctv) :: (r.cc, r.oc) :: (r.ps, listOf #[] 0) :: (r.xs, instObj 73 r.ds) :: (r.ds, r.str w.params) :: (r.l, listOf (valsOf zs').reverse.toArray nz') :: (r.cL, r.oC) :: tail) → ExtBut [r.l, r.dr] s.heap h' → Q (.str ⟨acc.toArray⟩ t) { s with heap := h', toks := tk' }) :
    wpAny (model rw_sn0078_01.row.prog w) (ktrTop dp un gd cn cs L a ccd cl outer) (call (.ref 63) [.ref r.xr]) Q E s :=
  g_tokP (pre := [p1, p2]) F N W (fun p hp => by
    simp only [List.mem_cons, List.not_mem_nil, or_false] at hp
    obtain ⟨⟨_, _, _, o1, o2, o3, o4, o5, o6, o7, o8⟩, _⟩ := W
    rcases hp with rfl | rfl <;> exact ⟨Nat.ne_of_gt (by omega), Nat.ne_of_gt (by omega), Nat.ne_of_gt (by omega)⟩) hz B X T hk hd hu h
theorem g_pop2 {p1 p2 : Addr × Obj} {v : Value} {zl : List Value} {Q : Value → Shared → Prop} (F : Fr h₀ L s.heap m) (N : News h₀ L s.heap (p1 :: p2 :: (r.pr, listOf (v :: pv).toArray np) :: (r.xr, instObj 73 r.dr) :: (r.dr, r.lex w.params ln tl) :: (r.f, lamObj r.cL r.cc r.pm r.ctv) :: (r.cc, r.oc) :: (r.ps, listOf #[] 0) :: (r.xs, instObj 73 r.ds) :: (r.ds, r.str w.params) :: (r.l, listOf zl.toArray nz) :: (r.cL, r.oC) :: tail))
    (W : RdAt r tail) (q1 : @LT.lt Nat _ r.pr p1.1) (q2 : @LT.lt Nat _ r.pr p2.1) (hz : pv.length ≤ 1000) (B : Below A₀ base outer h₀) (X : (K0 w.params).In h₀) (T : Top q loose mean mg mb h₀) (hk : cs.kind = .function) (hd : dp + 2 < recursionLimit) (hu : un + 64 * 2 < cLine)
    (h : ∀ h' tk', Fr h₀ L h' m → News h₀ L h' (p1 :: p2 :: (r.pr, listOf pv.toArray (np + 1)) :: (r.xr, instObj 73 r.dr) :: (r.dr, r.lex w.params ln tl) :: (r.f, lamObj r.cL r.cc r.pm r.ctv) :: (r.cc, r.oc) :: (r.ps, listOf #[] 0) :: (r.xs, instObj 73 r.ds) :: (r.ds, r.str w.params) :: (r.l, listOf zl.toArray nz) :: (r.cL, r.oC) :: tail) → ExtBut [r.pr] s.heap h' → Q v { s with heap := h', toks := tk' }) :
    wpAny (model rw_sn0078_01.row.prog w) (ktrTop dp un gd cn cs L a ccd cl outer) (call (.ref 63) [.ref r.xr]) Q E s :=
  g_popP (pre := [p1, p2]) F N W (fun p hp => by
    simp only [List.mem_cons, List.not_mem_nil, or_false] at hp
    obtain ⟨⟨_, _, _, o1, o2, o3, o4, o5, o6, o7, o8⟩, _⟩ := W
    rcases hp with rfl | rfl <;> exact ⟨Nat.ne_of_gt (by omega), Nat.ne_of_gt (by omega), Nat.ne_of_gt (by omega)⟩) hz B X T hk hd hu h
theorem g_push2 {p1 p2 : Addr × Obj} {v : Value} {zl : List Value} {Q : Value → Shared → Prop} (F : Fr h₀ L s.heap m) (N : News h₀ L s.heap (p1 :: p2 :: (r.pr, listOf pv.toArray np) :: (r.xr, instObj 73 r.dr) :: (r.dr, r.lex w.params ln tl) :: (r.f, lamObj r.cL r.cc r.pm r.ctv) :: (r.cc, r.oc) :: (r.ps, listOf #[] 0) :: (r.xs, instObj 73 r.ds) :: (r.ds, r.str w.params) :: (r.l, listOf zl.toArray nz) :: (r.cL, r.oC) :: tail))
    (W : RdAt r tail) (q1 : @LT.lt Nat _ r.pr p1.1) (q2 : @LT.lt Nat _ r.pr p2.1) (hz : pv.length ≤ 1000) (B : Below A₀ base outer h₀) (X : (K0 w.params).In h₀) (T : Top q loose mean mg mb h₀) (hk : cs.kind = .function) (hd : dp + 2 < recursionLimit) (hu : un + 64 * 2 < cLine)
    (h : ∀ h' tk', Fr h₀ L h' m → News h₀ L h' (p1 :: p2 :: (r.pr, listOf (pv ++ [v]).toArray (np + 1)) :: (r.xr, instObj 73 r.dr) :: (r.dr, r.lex w.params ln tl) :: (r.f, lamObj r.cL r.cc r.pm r.ctv) :: (r.cc, r.oc) :: (r.ps, listOf #[] 0) :: (r.xs, instObj 73 r.ds) :: (r.ds, r.str w.params) :: (r.l, listOf zl.toArray nz) :: (r.cL, r.oC) :: tail) → ExtBut [r.pr] s.heap h' → Q .none { s with heap := h', toks := tk' }) :
    wpAny (model rw_sn0078_01.row.prog w) (ktrTop dp un gd cn cs L a ccd cl outer) (call (.ref 70) [.ref r.xr, v]) Q E s :=
  g_pushP (pre := [p1, p2]) F N W (fun p hp => by
    simp only [List.mem_cons, List.not_mem_nil, or_false] at hp
    obtain ⟨⟨_, _, _, o1, o2, o3, o4, o5, o6, o7, o8⟩, _⟩ := W
    rcases hp with rfl | rfl <;> exact ⟨Nat.ne_of_gt (by omega), Nat.ne_of_gt (by omega), Nat.ne_of_gt (by omega)⟩) hz B X T hk hd hu h
theorem g_tok3 {p1 p2 p3 : Addr × Obj} {Q : Value → Shared → Prop} (F : Fr h₀ L s.heap m) (N : News h₀ L s.heap (p1 :: p2 :: p3 :: (r.pr, listOf [].toArray np) :: (r.xr, instObj 73 r.dr) :: (r.dr, r.lex w.params ln tl) :: (r.f, lamObj r.cL r.cc r.pm r.ctv) :: (r.cc, r.oc) :: (r.ps, listOf #[] 0) :: (r.xs, instObj 73 r.ds) :: (r.ds, r.str w.params) :: (r.l, listOf (valsOf zs).reverse.toArray nz) :: (r.cL, r.oC) :: tail))
    (W : RdAt r tail) (q1 : @LT.lt Nat _ r.pr p1.1) (q2 : @LT.lt Nat _ r.pr p2.1) (q3 : @LT.lt Nat _ r.pr p3.1) (hz : zs.length ≤ 1000) (B : Below A₀ base outer h₀) (X : (K0 w.params).In h₀) (T : Top q loose mean mg mb h₀) (hk : cs.kind = .function) (hd : dp + 5 < recursionLimit) (hu : un + 64 * 5 < cLine)
    (h : ∀ acc t zs' ln' tl' nz' h' tk', lexTok (zs.map Prod.fst) = (acc, zs'.map Prod.fst) → zs'.length + acc.length ≤ zs.length → Fr h₀ L h' m → News h₀ L h' (p1 :: p2 :: p3 :: (r.pr, listOf [].toArray np) :: (r.xr, instObj 73 r.dr) :: (r.dr, r.lex w.params ln' tl') :: (r.f, lamObj r.cL r.cc r.pm r.ctv) :: (r.cc, r.oc) :: (r.ps, listOf #[] 0) :: (r.xs, instObj 73 r.ds) :: (r.ds, r.str w.params) :: (r.l, listOf (valsOf zs').reverse.toArray nz') :: (r.cL, r.oC) :: tail) → ExtBut [r.l, r.dr] s.heap h' → Q (.str ⟨acc.toArray⟩ t) { s with heap := h', toks := tk' }) :
    wpAny (model rw_sn0078_01.row.prog w) (ktrTop dp un gd cn cs L a ccd cl outer) (call (.ref 63) [.ref r.xr]) Q E s :=
  g_tokP (pre := [p1, p2, p3]) F N W (fun p hp => by
    simp only [List.mem_cons, List.not_mem_nil, or_false] at hp
    obtain ⟨⟨_, _, _, o1, o2, o3, o4, o5, o6, o7, o8⟩, _⟩ := W
    rcases hp with rfl | rfl | rfl <;> exact ⟨Nat.ne_of_gt (by omega), Nat.ne_of_gt (by omega), Nat.ne_of_gt (by omega)⟩) hz B X T hk hd hu h
theorem g_pop3 {p1 p2 p3 : Addr × Obj} {v : Value} {zl : List Value} {Q : Value → Shared → Prop} (F : Fr h₀ L s.heap m) (N : News h₀ L s.heap (p1 :: p2 :: p3 :: (r.pr, listOf (v :: pv).toArray np) :: (r.xr, instObj 73 r.dr) :: (r.dr, r.lex w.params ln tl) :: (r.f, lamObj r.cL r.cc r.pm r.ctv) :: (r.cc, r.oc) :: (r.ps, listOf #[] 0) :: (r.xs, instObj 73 r.ds) :: (r.ds, r.str w.params) :: (r.l, listOf zl.toArray nz) :: (r.cL, r.oC) :: tail))
    (W : RdAt r tail) (q1 : @LT.lt Nat _ r.pr p1.1) (q2 : @LT.lt Nat _ r.pr p2.1) (q3 : @LT.lt Nat _ r.pr p3.1) (hz : pv.length ≤ 1000) (B : Below A₀ base outer h₀) (X : (K0 w.params).In h₀) (T : Top q loose mean mg mb h₀) (hk : cs.kind = .function) (hd : dp + 2 < recursionLimit) (hu : un + 64 * 2 < cLine)
    (h : ∀ h' tk', Fr h₀ L h' m → News h₀ L h' (p1 :: p2 :: p3 :: (r.pr, listOf pv.toArray (np + 1)) :: (r.xr, instObj 73 r.dr) :: (r.dr, r.lex w.params ln tl) :: (r.f, lamObj r.cL r.cc r.pm r.ctv) :: (r.cc, r.oc) :: (r.ps, listOf #[] 0) :: (r.xs, instObj 73 r.ds) :: (r.ds, r.str w.params) :: (r.l, listOf zl.toArray nz) :: (r.cL, r.oC) :: tail) → ExtBut [r.pr] s.heap h' → Q v { s with heap := h', toks := tk' }) :
    wpAny (model rw_sn0078_01.row.prog w) (ktrTop dp un gd cn cs L a ccd cl outer) (call (.ref 63) [.ref r.xr]) Q E s :=
  g_popP (pre := [p1, p2, p3]) F N W (fun p hp => by
    simp only [List.mem_cons, List.not_mem_nil, or_false] at hp
    obtain ⟨⟨_, _, _, o1, o2, o3, o4, o5, o6, o7, o8⟩, _⟩ := W
    rcases hp with rfl | rfl | rfl <;> exact ⟨Nat.ne_of_gt (by omega), Nat.ne_of_gt (by omega), Nat.ne_of_gt (by omega)⟩) hz B X T hk hd hu h
theorem g_push3 {p1 p2 p3 : Addr × Obj} {v : Value} {zl : List Value} {Q : Value → Shared → Prop} (F : Fr h₀ L s.heap m) (N : News h₀ L s.heap (p1 :: p2 :: p3 :: (r.pr, listOf pv.toArray np) :: (r.xr, instObj 73 r.dr) :: (r.dr, r.lex w.params ln tl) :: (r.f, lamObj r.cL r.cc r.pm r.ctv) :: (r.cc, r.oc) :: (r.ps, listOf #[] 0) :: (r.xs, instObj 73 r.ds) :: (r.ds, r.str w.params) :: (r.l, listOf zl.toArray nz) :: (r.cL, r.oC) :: tail))
    (W : RdAt r tail) (q1 : @LT.lt Nat _ r.pr p1.1) (q2 : @LT.lt Nat _ r.pr p2.1) (q3 : @LT.lt Nat _ r.pr p3.1) (hz : pv.length ≤ 1000) (B : Below A₀ base outer h₀) (X : (K0 w.params).In h₀) (T : Top q loose mean mg mb h₀) (hk : cs.kind = .function) (hd : dp + 2 < recursionLimit) (hu : un + 64 * 2 < cLine)
    (h : ∀ h' tk', Fr h₀ L h' m → News h₀ L h' (p1 :: p2 :: p3 :: (r.pr, listOf (pv ++ [v]).toArray (np + 1)) :: (r.xr, instObj 73 r.dr) :: (r.dr, r.lex w.params ln tl) :: (r.f, lamObj r.cL r.cc r.pm r.ctv) :: (r.cc, r.oc) :: (r.ps, listOf #[] 0) :: (r.xs, instObj 73 r.ds) :: (r.ds, r.str w.params) :: (r.l, listOf zl.toArray nz) :: (r.cL, r.oC) :: tail) → ExtBut [r.pr] s.heap h' → Q .none { s with heap := h', toks := tk' }) :
    wpAny (model rw_sn0078_01.row.prog w) (ktrTop dp un gd cn cs L a ccd cl outer) (call (.ref 70) [.ref r.xr, v]) Q E s :=
  g_pushP (pre := [p1, p2, p3]) F N W (fun p hp => by
    simp only [List.mem_cons, List.not_mem_nil, or_false] at hp
    obtain ⟨⟨_, _, _, o1, o2, o3, o4, o5, o6, o7, o8⟩, _⟩ := W
    rcases hp with rfl | rfl | rfl <;> exact ⟨Nat.ne_of_gt (by omega), Nat.ne_of_gt (by omega), Nat.ne_of_gt (by omega)⟩) hz B X T hk hd hu h
theorem g_tok4 {p1 p2 p3 p4 : Addr × Obj} {Q : Value → Shared → Prop} (F : Fr h₀ L s.heap m) (N : News h₀ L s.heap (p1 :: p2 :: p3 :: p4 :: (r.pr, listOf [].toArray np) :: (r.xr, instObj 73 r.dr) :: (r.dr, r.lex w.params ln tl) :: (r.f, lamObj r.cL r.cc r.pm r.ctv) :: (r.cc, r.oc) :: (r.ps, listOf #[] 0) :: (r.xs, instObj 73 r.ds) :: (r.ds, r.str w.params) :: (r.l, listOf (valsOf zs).reverse.toArray nz) :: (r.cL, r.oC) :: tail))
    (W : RdAt r tail) (q1 : @LT.lt Nat _ r.pr p1.1) (q2 : @LT.lt Nat _ r.pr p2.1) (q3 : @LT.lt Nat _ r.pr p3.1) (q4 : @LT.lt Nat _ r.pr p4.1) (hz : zs.length ≤ 1000) (B : Below A₀ base outer h₀) (X : (K0 w.params).In h₀) (T : Top q loose mean mg mb h₀) (hk : cs.kind = .function) (hd : dp + 5 < recursionLimit) (hu : un + 64 * 5 < cLine)
    (h : ∀ acc t zs' ln' tl' nz' h' tk', lexTok (zs.map Prod.fst) = (acc, zs'.map Prod.fst) → zs'.length + acc.length ≤ zs.length → Fr h₀ L h' m → News h₀ L h' (p1 :: p2 :: p3 :: p4 :: (r.pr, listOf [].toArray np) :: (r.xr, instObj 73 r.dr) :: (r.dr, r.lex w.params ln' tl') :: (r.f, lamObj r.cL r.cc r.pm r.ctv) :: (r.cc, r.oc) :: (r.ps, listOf #[] 0) :: (r.xs, instObj 73 r.ds) :: (r.ds, r.str w.params) :: (r.l, listOf (valsOf zs').reverse.toArray nz') :: (r.cL, r.oC) :: tail) → ExtBut [r.l, r.dr] s.heap h' → Q (.str ⟨acc.toArray⟩ t) { s with heap := h', toks := tk' }) :
    wpAny (model rw_sn0078_01.row.prog w) (ktrTop dp un gd cn cs L a ccd cl outer) (call (.ref 63) [.ref r.xr]) Q E s :=
  g_tokP (pre := [p1, p2, p3, p4]) F N W (fun p hp => by
    simp only [List.mem_cons, List.not_mem_nil, or_false] at hp
    obtain ⟨⟨_, _, _, o1, o2, o3, o4, o5, o6, o7, o8⟩, _⟩ := W
    rcases hp with rfl | rfl | rfl | rfl <;> exact ⟨Nat.ne_of_gt (by omega), Nat.ne_of_gt (by omega), Nat.ne_of_gt (by omega)⟩) hz B X T hk hd hu h
theorem g_pop4 {p1 p2 p3 p4 : Addr × Obj} {v : Value} {zl : List Value} {Q : Value → Shared → Prop} (F : Fr h₀ L s.heap m) (N : News h₀ L s.heap (p1 :: p2 :: p3 :: p4 :: (r.pr, listOf (v :: pv).toArray np) :: (r.xr, instObj 73 r.dr) :: (r.dr, r.lex w.params ln tl) :: (r.f, lamObj r.cL r.cc r.pm r.ctv) :: (r.cc, r.oc) :: (r.ps, listOf #[] 0) :: (r.xs, instObj 73 r.ds) :: (r.ds, r.str w.params) :: (r.l, listOf zl.toArray nz) :: (r.cL, r.oC) :: tail))
    (W : RdAt r tail) (q1 : @LT.lt Nat _ r.pr p1.1) (q2 : @LT.lt Nat _ r.pr p2.1) (q3 : @LT.lt Nat _ r.pr p3.1) (q4 : @LT.lt Nat _ r.pr p4.1) (hz : pv.length ≤ 1000) (B : Below A₀ base outer h₀) (X : (K0 w.params).In h₀) (T : Top q loose mean mg mb h₀) (hk : cs.kind = .function) (hd : dp + 2 < recursionLimit) (hu : un + 64 * 2 < cLine)
    (h : ∀ h' tk', Fr h₀ L h' m → News h₀ L h' (p1 :: p2 :: p3 :: p4 :: (r.pr, listOf pv.toArray (np + 1)) :: (r.xr, instObj 73 r.dr) :: (r.dr, r.lex w.params ln tl) :: (r.f, lamObj r.cL r.cc r.pm r.ctv) :: (r.cc, r.oc) :: (r.ps, listOf #[] 0) :: (r.xs, instObj 73 r.ds) :: (r.ds, r.str w.params) :: (r.l, listOf zl.toArray nz) :: (r.cL, r.oC) :: tail) → ExtBut [r.pr] s.heap h' → Q v { s with heap := h', toks := tk' }) :
    wpAny (model rw_sn0078_01.row.prog w) (ktrTop dp un gd cn cs L a ccd cl outer) (call (.ref 63) [.ref r.xr]) Q E s :=
  g_popP (pre := [p1, p2, p3, p4]) F N W (fun p hp => by
    simp only [List.mem_cons, List.not_mem_nil, or_false] at hp
    obtain ⟨⟨_, _, _, o1, o2, o3, o4, o5, o6, o7, o8⟩, _⟩ := W
    rcases hp with rfl | rfl | rfl | rfl <;> exact ⟨Nat.ne_of_gt (by omega), Nat.ne_of_gt (by omega), Nat.ne_of_gt (by omega)⟩) hz B X T hk hd hu h
theorem g_push4 {p1 p2 p3 p4 : Addr × Obj} {v : Value} {zl : List Value} {Q : Value → Shared → Prop} (F : Fr h₀ L s.heap m) (N : News h₀ L s.heap (p1 :: p2 :: p3 :: p4 :: (r.pr, listOf pv.toArray np) :: (r.xr, instObj 73 r.dr) :: (r.dr, r.lex w.params ln tl) :: (r.f, lamObj r.cL r.cc r.pm r.ctv) :: (r.cc, r.oc) :: (r.ps, listOf #[] 0) :: (r.xs, instObj 73 r.ds) :: (r.ds, r.str w.params) :: (r.l, listOf zl.toArray nz) :: (r.cL, r.oC) :: tail))
    (W : RdAt r tail) (q1 : @LT.lt Nat _ r.pr p1.1) (q2 : @LT.lt Nat _ r.pr p2.1) (q3 : @LT.lt Nat _ r.pr p3.1) (q4 : @LT.lt Nat _ r.pr p4.1) (hz : pv.length ≤ 1000) (B : Below A₀ base outer h₀) (X : (K0 w.params).In h₀) (T : Top q loose mean mg mb h₀) (hk : cs.kind = .function) (hd : dp + 2 < recursionLimit) (hu : un + 64 * 2 < cLine)
    (h : ∀ h' tk', Fr h₀ L h' m → News h₀ L h' (p1 :: p2 :: p3 :: p4 :: (r.pr, listOf (pv ++ [v]).toArray (np + 1)) :: (r.xr, instObj 73 r.dr) :: (r.dr, r.lex w.params ln tl) :: (r.f, lamObj r.cL r.cc r.pm r.ctv) :: (r.cc, r.oc) :: (r.ps, listOf #[] 0) :: (r.xs, instObj 73 r.ds) :: (r.ds, r.str w.params) :: (r.l, listOf zl.toArray nz) :: (r.cL, r.oC) :: tail) → ExtBut [r.pr] s.heap h' → Q .none { s with heap := h', toks := tk' }) :
    wpAny (model rw_sn0078_01.row.prog w) (ktrTop dp un gd cn cs L a ccd cl outer) (call (.ref 70) [.ref r.xr, v]) Q E s :=
  g_pushP (pre := [p1, p2, p3, p4]) F N W (fun p hp => by
    simp only [List.mem_cons, List.not_mem_nil, or_false] at hp
    obtain ⟨⟨_, _, _, o1, o2, o3, o4, o5, o6, o7, o8⟩, _⟩ := W
    rcases hp with rfl | rfl | rfl | rfl <;> exact ⟨Nat.ne_of_gt (by omega), Nat.ne_of_gt (by omega), Nat.ne_of_gt (by omega)⟩) hz B X T hk hd hu h
end
theorem rz_ConY : True := by k_with_none; trivial
local macro_rules | `(tactic| omega) => `(tactic| omega (config := {}))
structure TurnQ (h₀ : Heap) (L I : Addr) (o : Obj) (J : (Str → Option Value) → List (Addr × Obj) → Prop) (s : Shared) (R : Result → Shared → Prop) (Q : Flow → Shared → Prop) : Prop where
  next : ∀ h' gs tk m' nx, Fr h₀ L h' m' → News h₀ L h' ((I, o) :: nx) → J m' nx → Q .next { s with heap := h', gens := gs, toks := tk }
  cont : ∀ h' gs tk m' nx, Fr h₀ L h' m' → News h₀ L h' ((I, o) :: nx) → J m' nx → Q .cont { s with heap := h', gens := gs, toks := tk }
  brk : ∀ s₃, R (.ok .next) s₃ → Q .brk s₃
  ret : ∀ v s₃, R (.ok (.ret v)) s₃ → Q (.ret v) s₃
theorem TurnQ.self {h₀ : Heap} {L I : Addr} {o : Obj} {J : (Str → Option Value) → List (Addr × Obj) → Prop} {s : Shared} {R : Result → Shared → Prop} : TurnQ h₀ L I o J s R (TurnEnd h₀ L I o J s R) :=
  ⟨fun _ _ _ _ _ F N j => ⟨_, _, _, _, _, rfl, F, N, j⟩, fun _ _ _ _ _ F N j => ⟨_, _, _, _, _, rfl, F, N, j⟩, fun _ h => h, fun _ _ h => h⟩
structure TurnQB (h₀ : Heap) (L I : Addr) (o : Obj) (J Je : (Str → Option Value) → List (Addr × Obj) → Prop) (s : Shared) (R : Result → Shared → Prop) (Q : Flow → Shared → Prop) : Prop where
  next : ∀ h' gs tk m' nx, Fr h₀ L h' m' → News h₀ L h' ((I, o) :: nx) → J m' nx → Q .next { s with heap := h', gens := gs, toks := tk }
  cont : ∀ h' gs tk m' nx, Fr h₀ L h' m' → News h₀ L h' ((I, o) :: nx) → J m' nx → Q .cont { s with heap := h', gens := gs, toks := tk }
  brk : ∀ h' gs tk m' nx, Fr h₀ L h' m' → News h₀ L h' nx → Je m' nx → Q .brk { s with heap := h', gens := gs, toks := tk }
  ret : ∀ v s₃, R (.ok (.ret v)) s₃ → Q (.ret v) s₃
structure CompQ (h₀ : Heap) (L : Addr) (m : Str → Option Value) (l : List (Addr × Obj)) (J : List Value → List (Addr × Obj) → Prop) (s : Shared) (Q : List Value → Shared → Prop) : Prop where
  next : ∀ ys h' gs tk nx, Fr h₀ L h' m → News h₀ L h' (l ++ nx) → J ys nx → Q ys { s with heap := h', gens := gs, toks := tk }
theorem CompQ.self {h₀ : Heap} {L : Addr} {m : Str → Option Value} {l : List (Addr × Obj)} {J : List Value → List (Addr × Obj) → Prop} {s : Shared} : CompQ h₀ L m l J s (fun ys s₅ => CompEnd h₀ L m l (J ys) s s₅) :=
  ⟨fun _ _ _ _ _ F N j => ⟨_, _, _, _, rfl, F, N, j⟩⟩
structure CompQC (h₀ : Heap) (L : Addr) (m : Str → Option Value) (l : List (Addr × Obj)) (J : List Value → Prop) (s : Shared) (Q : List Value → Shared → Prop) : Prop where
  next : ∀ ys h' gs tk, Fr h₀ L h' m → News h₀ L h' l → J ys → Q ys { s with heap := h', gens := gs, toks := tk }
section
variable {prog : Program} {w : World} {A : Around} {E : Value → Shared → Prop} {s : Shared} {h₀ : Heap} {L : Addr} {m : Str → Option Value} {nx₀ : List (Addr × Obj)} {n : Nat} {env : Env} {target : PySem.Expr} {body : List Stmt} {R : Result → Shared → Prop}
theorem forRange {r : Addr} {a b : Int} {t u v : Tok} (n : Nat) (J : Nat → (Str → Option Value) → List (Addr × Obj) → Prop) (hh : A.handled = none) (F : Fr h₀ L s.heap m) (N : News h₀ L s.heap nx₀) (hr : IsRange s.heap r a b 1 t u v) (hsmall : Builtin.Range.small a b 1 = true) (hn : Builtin.Range.rangeSize a b 1 = (n : Int))
    (hj0 : J 0 m nx₀) (hadr : ∀ i m nx, J i m nx → ∀ p ∈ nx, ∃ q ∈ nx₀, q.1 = p.1)
    (turn : ∀ i t m₁ nx h gs tk I o', i < n → J i m₁ nx → (∀ p ∈ nx₀, p.1 < I) → Fr h₀ L h m₁ → News h₀ L h ((I, o') :: nx) → ∀ Q' : Flow → Shared → Prop, TurnQ h₀ L I o' (J (i + 1)) s R Q' → ∀ E₁ E₂, wpAny (model prog w) A (assign target env (.int (a + (i : Int)) t)) (fun _ s₂ => wpAny (model prog w) A (execs body env) Q' E₁ s₂) E₂ { s with heap := h, gens := gs, toks := tk })
    (done : ∀ m₁ nx h gs tk, J n m₁ nx → Fr h₀ L h m₁ → News h₀ L h nx → R (.ok .next) { s with heap := h, gens := gs, toks := tk })
    (ht : ∀ I v, letOwnedTupleGo target (.ref I) v = pure () := by intro _ _; rfl) :
    wpAny (model prog w) A (pyIter (.ref r)) (fun it s₂ => codeAny (model prog w) A (.forLoop target it body [] env) R s₂) E s := by
  refine wpAny_pyIter_range hr hsmall ?_
  have W := Walks.range (prog := prog) (w := w) hh s.heap.objs.size a 1 n
  refine loopJ (n := n) (J := J) (nx₀ := nx₀) (R := R) (h₀ := h₀) (L := L) (m := m) (s := { s with heap := s.heap.push { cls := .type "range_iterator", data := .fields #[rawInt a, rawInt (Builtin.Range.rangeSize a b 1), rawInt 1] } }) W (fun i h st => ⟨_, st⟩) ?_ (F.push _) (News.push F N _) (fun p hp => Nat.ne_of_lt (Heap.lt_size (N p hp).1)) hj0 hadr (fun b hb => .inl (List.mem_singleton.mp hb)) ?_ ?_ (ht _)
  · show IsRangeIter _ _ _ _ _
    rw [hn]; simpa using Heap.get?_push_size _ rfl
  · intro i v m₁ nx h gs tk o' hi hP hj F' N' E₁ E₂
    obtain ⟨t, rfl⟩ := hP
    rw [Int.mul_one]
    exact turn i t m₁ nx h gs tk _ o' hi hj (fun p hp => Heap.lt_size (N p hp).1) F' N' _ TurnQ.self E₁ E₂
  · exact done
theorem forList {D : Addr} {vs : List Value} {nD : Nat} (J : Nat → (Str → Option Value) → List (Addr × Obj) → Prop) (hh : A.handled = none) (F : Fr h₀ L s.heap m) (N : News h₀ L s.heap nx₀) (hD : (D, listOf vs.toArray nD) ∈ nx₀)
    (hj0 : J 0 m nx₀) (hadr : ∀ i m nx, J i m nx → ∀ p ∈ nx, ∃ q ∈ nx₀, q.1 = p.1) (hJD : ∀ i m nx, J i m nx → (D, listOf vs.toArray nD) ∈ nx)
    (turn : ∀ i v m₁ nx h gs tk I o', vs[i]? = some v → J i m₁ nx → (∀ p ∈ nx₀, p.1 < I) → Fr h₀ L h m₁ → News h₀ L h ((I, o') :: nx) → ∀ Q' : Flow → Shared → Prop, TurnQ h₀ L I o' (J (i + 1)) s R Q' → ∀ E₁ E₂, wpAny (model prog w) A (assign target env v) (fun _ s₂ => wpAny (model prog w) A (execs body env) Q' E₁ s₂) E₂ { s with heap := h, gens := gs, toks := tk })
    (done : ∀ m₁ nx h gs tk, J vs.length m₁ nx → Fr h₀ L h m₁ → News h₀ L h nx → R (.ok .next) { s with heap := h, gens := gs, toks := tk })
    (ht : ∀ I v, letOwnedTupleGo target (.ref I) v = pure () := by intro _ _; rfl) :
    wpAny (model prog w) A (pyIter (.ref D)) (fun it s₂ => codeAny (model prog w) A (.forLoop target it body [] env) R s₂) E s := by
  have hls : s.heap.IsList D vs.toArray := ⟨_, (N _ hD).1, rfl, nD, rfl⟩
  refine wpAny_pyIter_list hls ?_
  have hne : D ≠ s.heap.objs.size := Nat.ne_of_lt (Heap.lt_size (N _ hD).1)
  have W := Walks.list (prog := prog) (w := w) hh s.heap.objs.size D hne vs.toArray
  refine loopJ (n := vs.toArray.size) (J := J) (nx₀ := nx₀) (R := R) (h₀ := h₀) (L := L) (m := m) (s := { s with heap := s.heap.push { cls := .type "list_iterator", data := .fields #[.ref D, .int 0 0] } }) W (fun i h st => ?_) ?_ (F.push _) (News.push F N _) (fun p hp => Nat.ne_of_lt (Heap.lt_size (N p hp).1)) hj0 hadr (fun b hb => ?_) ?_ ?_ (ht _)
  · obtain ⟨⟨o, e, _⟩, _⟩ := st; exact ⟨o, e⟩
  · exact ⟨⟨_, Heap.get?_push_size _ rfl, rfl, rfl⟩, hls.at fun o e => Heap.get?_push_of_some _ e⟩
  · rcases List.mem_cons.mp hb with h | h
    · exact .inl h
    · exact .inr (.inr ⟨_, fun nx ⟨i, m, hj⟩ => (List.mem_singleton.mp h) ▸ hJD i m nx hj⟩)
  · intro i v m₁ nx h gs tk o' hi hP hj F' N' E₁ E₂
    exact turn i v m₁ nx h gs tk _ o' (by simpa using hP) hj (fun p hp => Heap.lt_size (N p hp).1) F' N' _ TurnQ.self E₁ E₂
  · intro m₁ nx h gs tk hj F' N'
    rw [List.size_toArray] at hj
    exact done m₁ nx h gs tk hj F' N'
end
section
variable {prog : Program} {w : World} {A : Around} {E : Value → Shared → Prop} {s : Shared} {h₀ : Heap} {m : Str → Option Value} {nx₀ : List (Addr × Obj)} {env : Env} {scope : Scope} {cl : List (Str × Addr)} {x : Str} {ifs : List PySem.Expr} {elt : PySem.Expr} {Q : Value → Shared → Prop}
theorem compList {D₀ : Addr} {vs : List Value} {nD₀ : Nat} (J : Nat → List Value → List (Addr × Obj) → Prop) (hh : A.handled = none) (F : Fr h₀ env.locals s.heap m) (N : News h₀ env.locals s.heap nx₀) (hD : (D₀, listOf vs.toArray nD₀) ∈ nx₀) (hsz : vs.length ≤ sizeLine)
    (hj0 : J 0 [] nx₀) (hadr : ∀ i ys nx, J i ys nx → ∀ p ∈ nx, ∃ q ∈ nx₀, q.1 = p.1) (hlen : ∀ i ys nx, J i ys nx → ys.length ≤ i) (hJD : ∀ i ys nx, J i ys nx → (D₀, listOf vs.toArray nD₀) ∈ nx)
    (turn : ∀ i v ys nx D C I nD oC o' h gs tk mC, vs[i]? = some v → J i ys nx → (∀ p ∈ nx₀, p.1 < I) → @LT.lt Nat _ I D → @LT.lt Nat _ D C → h.Ns C mC → mC x = some v → Fr h₀ env.locals h m → News h₀ env.locals h ((D, listOf ys.toArray nD) :: (C, oC) :: (I, o') :: nx) → ∀ Q' : List Value → Shared → Prop, CompQ h₀ env.locals m [(D, listOf ys.toArray nD), (C, oC), (I, o')] (J (i + 1)) s Q' → ∀ E₁ E₂,
      wpAny (model prog w) A (compTestsOf ifs (compEnvC scope cl C env)) (fun ok s₄ => if ok = true then wpAny (model prog w) A (eval elt (compEnvC scope cl C env)) (fun y s₅ => Q' (ys ++ [y]) s₅) E₂ s₄
        else Q' ys s₄) E₁ { s with heap := h, gens := gs, toks := tk })
    (done : ∀ D nD ys nx h gs tk, J vs.length ys nx → (∀ p ∈ nx₀, p.1 < D) → Fr h₀ env.locals h m → News h₀ env.locals h ((D, listOf ys.toArray nD) :: nx) → Q (.ref D) { s with heap := h, gens := gs, toks := tk }) :
    wpAny (model prog w) A (pyIter (.ref D₀)) (fun it s₂ => CompJ prog w A env scope cl x ifs elt Q it s₂) E s := by
  have hls : s.heap.IsList D₀ vs.toArray := ⟨_, (N _ hD).1, rfl, nD₀, rfl⟩
  refine wpAny_pyIter_list hls ?_
  have hne : D₀ ≠ s.heap.objs.size := Nat.ne_of_lt (Heap.lt_size (N _ hD).1)
  have W := Walks.list (prog := prog) (w := w) hh s.heap.objs.size D₀ hne vs.toArray
  refine ⟨h₀, _, m, nx₀, _, _, _, _, _, J, rfl, W, (fun i h st => ?_), by simpa using hsz, ?_, F.push _, News.push F N _, (fun p hp => Nat.ne_of_lt (Heap.lt_size (N p hp).1)), hj0, hadr, hlen, (fun b hb => ?_), ?_, ?_⟩
  · obtain ⟨⟨o, e, _⟩, _⟩ := st; exact ⟨o, e⟩
  · exact ⟨⟨_, Heap.get?_push_size _ rfl, rfl, rfl⟩, hls.at fun o e => Heap.get?_push_of_some _ e⟩
  · rcases List.mem_cons.mp hb with h | h
    · exact .inl h
    · exact .inr (.inr ⟨_, fun nx ⟨i, m, hj⟩ => (List.mem_singleton.mp h) ▸ hJD i m nx hj⟩)
  · intro i v ys nx D C nD oC o' h gs tk mC hi hP hj hDs hDC hC hm F' N' E₁ E₂
    refine turn i v ys nx D C _ nD oC o' h gs tk mC (by simpa using hP) hj (fun p hp => Heap.lt_size (N p hp).1) ?_ hDC hC hm F' N' (fun ys' s₅ => CompEnd h₀ env.locals m [(D, listOf ys.toArray nD), (C, oC), (_, o')] (J (i + 1) ys') s s₅) CompQ.self E₁ E₂
    have hDs' : (s.heap.push _).objs.size ≤ D := hDs
    rw [Heap.size_push] at hDs'
    exact hDs'
  · intro D nD ys nx h gs tk hj hDs F' N'
    rw [List.size_toArray] at hj
    refine done D nD ys nx h gs tk hj (fun p hp => ?_) F' N'
    have hDs' : (s.heap.push _).objs.size ≤ D := hDs
    rw [Heap.size_push] at hDs'
    exact Nat.lt_of_lt_of_le (Heap.lt_size (N p hp).1) (Nat.le_of_lt hDs')
theorem compRange {r : Addr} {a b : Int} {t u v : Tok} (n : Nat) (J : Nat → List Value → List (Addr × Obj) → Prop) (hh : A.handled = none) (F : Fr h₀ env.locals s.heap m) (N : News h₀ env.locals s.heap nx₀) (hr : IsRange s.heap r a b 1 t u v) (hsmall : Builtin.Range.small a b 1 = true) (hn : Builtin.Range.rangeSize a b 1 = (n : Int)) (hsz : n ≤ sizeLine)
    (hj0 : J 0 [] nx₀) (hadr : ∀ i ys nx, J i ys nx → ∀ p ∈ nx, ∃ q ∈ nx₀, q.1 = p.1) (hlen : ∀ i ys nx, J i ys nx → ys.length ≤ i)
    (turn : ∀ i t ys nx D C I nD oC o' h gs tk mC, i < n → J i ys nx → (∀ p ∈ nx₀, p.1 < I) → @LT.lt Nat _ I D → @LT.lt Nat _ D C → h.Ns C mC → mC x = some (.int (a + (i : Int)) t) → Fr h₀ env.locals h m → News h₀ env.locals h ((D, listOf ys.toArray nD) :: (C, oC) :: (I, o') :: nx) → ∀ Q' : List Value → Shared → Prop, CompQ h₀ env.locals m [(D, listOf ys.toArray nD), (C, oC), (I, o')] (J (i + 1)) s Q' → ∀ E₁ E₂,
      wpAny (model prog w) A (compTestsOf ifs (compEnvC scope cl C env)) (fun ok s₄ => if ok = true then wpAny (model prog w) A (eval elt (compEnvC scope cl C env)) (fun y s₅ => Q' (ys ++ [y]) s₅) E₂ s₄
        else Q' ys s₄) E₁ { s with heap := h, gens := gs, toks := tk })
    (done : ∀ D nD ys nx h gs tk, J n ys nx → (∀ p ∈ nx₀, p.1 < D) → Fr h₀ env.locals h m → News h₀ env.locals h ((D, listOf ys.toArray nD) :: nx) → Q (.ref D) { s with heap := h, gens := gs, toks := tk }) :
    wpAny (model prog w) A (pyIter (.ref r)) (fun it s₂ => CompJ prog w A env scope cl x ifs elt Q it s₂) E s := by
  refine wpAny_pyIter_range hr hsmall ?_
  have W := Walks.range (prog := prog) (w := w) hh s.heap.objs.size a 1 n
  refine ⟨h₀, _, m, nx₀, _, _, _, _, _, J, rfl, W, (fun i h st => ⟨_, st⟩), hsz, ?_, F.push _, News.push F N _, (fun p hp => Nat.ne_of_lt (Heap.lt_size (N p hp).1)), hj0, hadr, hlen, (fun b hb => .inl (List.mem_singleton.mp hb)), ?_, ?_⟩
  · show IsRangeIter _ _ _ _ _
    rw [hn]; simpa using Heap.get?_push_size _ rfl
  · intro i v ys nx D C nD oC o' h gs tk mC hi hP hj hDs hDC hC hm F' N' E₁ E₂
    obtain ⟨t, rfl⟩ := hP
    refine turn i t ys nx D C _ nD oC o' h gs tk mC hi hj (fun p hp => Heap.lt_size (N p hp).1) ?_ hDC hC (by simpa using hm) F' N' (fun ys' s₅ => CompEnd h₀ env.locals m [(D, listOf ys.toArray nD), (C, oC), (_, o')] (J (i + 1) ys') s s₅) CompQ.self E₁ E₂
    have hDs' : (s.heap.push _).objs.size ≤ D := hDs
    rw [Heap.size_push] at hDs'
    exact hDs'
  · intro D nD ys nx h gs tk hj hDs F' N'
    refine done D nD ys nx h gs tk hj (fun p hp => ?_) F' N'
    have hDs' : (s.heap.push _).objs.size ≤ D := hDs
    rw [Heap.size_push] at hDs'
    exact Nat.lt_of_lt_of_le (Heap.lt_size (N p hp).1) (Nat.le_of_lt hDs')
theorem compListC {D₀ : Addr} {vs : List Value} {nD₀ : Nat} (J : Nat → List Value → Prop) (hh : A.handled = none) (F : Fr h₀ env.locals s.heap m) (N : News h₀ env.locals s.heap nx₀) (hD : (D₀, listOf vs.toArray nD₀) ∈ nx₀) (hsz : vs.length ≤ sizeLine)
    (hj0 : J 0 []) (hlen : ∀ i ys, J i ys → ys.length ≤ i)
    (turn : ∀ i v ys D C I nD oC o' h gs tk mC, vs[i]? = some v → J i ys → (∀ p ∈ nx₀, p.1 < I) → @LT.lt Nat _ I D → @LT.lt Nat _ D C → h.Ns C mC → mC x = some v → Fr h₀ env.locals h m → News h₀ env.locals h ((D, listOf ys.toArray nD) :: (C, oC) :: (I, o') :: nx₀) → ∀ Q' : List Value → Shared → Prop, CompQC h₀ env.locals m ((D, listOf ys.toArray nD) :: (C, oC) :: (I, o') :: nx₀) (J (i + 1)) s Q' → ∀ E₁ E₂,
      wpAny (model prog w) A (compTestsOf ifs (compEnvC scope cl C env)) (fun ok s₄ => if ok = true then wpAny (model prog w) A (eval elt (compEnvC scope cl C env)) (fun y s₅ => Q' (ys ++ [y]) s₅) E₂ s₄
        else Q' ys s₄) E₁ { s with heap := h, gens := gs, toks := tk })
    (done : ∀ D nD ys h gs tk, J vs.length ys → (∀ p ∈ nx₀, p.1 < D) → Fr h₀ env.locals h m → News h₀ env.locals h ((D, listOf ys.toArray nD) :: nx₀) → Q (.ref D) { s with heap := h, gens := gs, toks := tk }) :
    wpAny (model prog w) A (pyIter (.ref D₀)) (fun it s₂ => CompJ prog w A env scope cl x ifs elt Q it s₂) E s := by
  refine compList (fun i ys nx => nx = nx₀ ∧ J i ys) hh F N hD hsz ⟨rfl, hj0⟩ (fun i ys nx h p hp => ⟨p, h.1 ▸ hp, rfl⟩) (fun i ys nx h => hlen i ys h.2) (fun i ys nx h => h.1 ▸ hD) ?_ ?_
  · rintro i v ys nx D C I nD oC o' h gs tk mC hv ⟨rfl, hj⟩ hI hID hDC hC hm F' N' Q' hQ E₁ E₂
    exact turn i v ys D C I nD oC o' h gs tk mC hv hj hI hID hDC hC hm F' N' Q' ⟨fun ys' h' gs' tk' F₂ N₂ j => hQ.next ys' h' gs' tk' _ F₂ N₂ ⟨rfl, j⟩⟩ E₁ E₂
  · rintro D nD ys nx h gs tk ⟨rfl, hj⟩ hD' F' N'
    exact done D nD ys h gs tk hj hD' F' N'
theorem compRangeC {r : Addr} {a b : Int} {t u v : Tok} (n : Nat) (J : Nat → List Value → Prop) (hh : A.handled = none) (F : Fr h₀ env.locals s.heap m) (N : News h₀ env.locals s.heap nx₀) (hr : IsRange s.heap r a b 1 t u v) (hsmall : Builtin.Range.small a b 1 = true) (hn : Builtin.Range.rangeSize a b 1 = (n : Int)) (hsz : n ≤ sizeLine)
    (hj0 : J 0 []) (hlen : ∀ i ys, J i ys → ys.length ≤ i)
    (turn : ∀ i t ys D C I nD oC o' h gs tk mC, i < n → J i ys → (∀ p ∈ nx₀, p.1 < I) → @LT.lt Nat _ I D → @LT.lt Nat _ D C → h.Ns C mC → mC x = some (.int (a + (i : Int)) t) → Fr h₀ env.locals h m → News h₀ env.locals h ((D, listOf ys.toArray nD) :: (C, oC) :: (I, o') :: nx₀) → ∀ Q' : List Value → Shared → Prop, CompQC h₀ env.locals m ((D, listOf ys.toArray nD) :: (C, oC) :: (I, o') :: nx₀) (J (i + 1)) s Q' → ∀ E₁ E₂,
      wpAny (model prog w) A (compTestsOf ifs (compEnvC scope cl C env)) (fun ok s₄ => if ok = true then wpAny (model prog w) A (eval elt (compEnvC scope cl C env)) (fun y s₅ => Q' (ys ++ [y]) s₅) E₂ s₄
        else Q' ys s₄) E₁ { s with heap := h, gens := gs, toks := tk })
    (done : ∀ D nD ys h gs tk, J n ys → (∀ p ∈ nx₀, p.1 < D) → Fr h₀ env.locals h m → News h₀ env.locals h ((D, listOf ys.toArray nD) :: nx₀) → Q (.ref D) { s with heap := h, gens := gs, toks := tk }) :
    wpAny (model prog w) A (pyIter (.ref r)) (fun it s₂ => CompJ prog w A env scope cl x ifs elt Q it s₂) E s := by
  refine compRange n (fun i ys nx => nx = nx₀ ∧ J i ys) hh F N hr hsmall hn hsz ⟨rfl, hj0⟩ (fun i ys nx h p hp => ⟨p, h.1 ▸ hp, rfl⟩) (fun i ys nx h => hlen i ys h.2) ?_ ?_
  · rintro i t ys nx D C I nD oC o' h gs tk mC hi ⟨rfl, hj⟩ hI hID hDC hC hm F' N' Q' hQ E₁ E₂
    exact turn i t ys D C I nD oC o' h gs tk mC hi hj hI hID hDC hC hm F' N' Q' ⟨fun ys' h' gs' tk' F₂ N₂ j => hQ.next ys' h' gs' tk' _ F₂ N₂ ⟨rfl, j⟩⟩ E₁ E₂
  · rintro D nD ys nx h gs tk ⟨rfl, hj⟩ hD' F' N'
    exact done D nD ys h gs tk hj hD' F' N'
end
noncomputable def TurnEndB (h₀ : Heap) (L I : Addr) (o : Obj) (J Je : (Str → Option Value) → List (Addr × Obj) → Prop) (s : Shared) (R : Result → Shared → Prop) (f : Flow) (s₃ : Shared) : Prop :=
  match f with
  | .next | .cont => ∃ h' gs tk m' nx, s₃ = { s with heap := h', gens := gs, toks := tk } ∧ Fr h₀ L h' m' ∧ News h₀ L h' ((I, o) :: nx) ∧ J m' nx
  | .brk => ∃ h' gs tk m' nx, s₃ = { s with heap := h', gens := gs, toks := tk } ∧ Fr h₀ L h' m' ∧ News h₀ L h' nx ∧ Je m' nx
  | .ret v => R (.ok (.ret v)) s₃
theorem forRangeB {prog : Program} {w : World} {A : Around} {E : Value → Shared → Prop} {s : Shared} {h₀ : Heap} {L : Addr} {m : Str → Option Value} {nx₀ : List (Addr × Obj)} {env : Env} {target : PySem.Expr} {body : List Stmt} {R : Result → Shared → Prop}
    {r : Addr} {a b : Int} {t u v : Tok} (n : Nat) (J : Nat → (Str → Option Value) → List (Addr × Obj) → Prop) (Je : (Str → Option Value) → List (Addr × Obj) → Prop) (hh : A.handled = none) (F : Fr h₀ L s.heap m) (N : News h₀ L s.heap nx₀) (hr : IsRange s.heap r a b 1 t u v) (hsmall : Builtin.Range.small a b 1 = true) (hn : Builtin.Range.rangeSize a b 1 = (n : Int))
    (hj0 : J 0 m nx₀) (hadr : ∀ i m nx, J i m nx → ∀ p ∈ nx, ∃ q ∈ nx₀, q.1 = p.1) (hje : ∀ m nx, J n m nx → Je m nx)
    (turn : ∀ i t m₁ nx h gs tk I o', i < n → J i m₁ nx → (∀ p ∈ nx₀, p.1 < I) → Fr h₀ L h m₁ → News h₀ L h ((I, o') :: nx) → ∀ Q' : Flow → Shared → Prop, TurnQB h₀ L I o' (J (i + 1)) Je s R Q' → ∀ E₁ E₂, wpAny (model prog w) A (assign target env (.int (a + (i : Int)) t)) (fun _ s₂ => wpAny (model prog w) A (execs body env) Q' E₁ s₂) E₂ { s with heap := h, gens := gs, toks := tk })
    (done : ∀ m₁ nx h gs tk, Je m₁ nx → Fr h₀ L h m₁ → News h₀ L h nx → R (.ok .next) { s with heap := h, gens := gs, toks := tk })
    (ht : ∀ I v, letOwnedTupleGo target (.ref I) v = pure () := by intro _ _; rfl) :
    wpAny (model prog w) A (pyIter (.ref r)) (fun it s₂ => codeAny (model prog w) A (.forLoop target it body [] env) R s₂) E s := by
  refine forRange n J hh F N hr hsmall hn hj0 hadr ?_ (fun m₁ nx h gs tk hj => done m₁ nx h gs tk (hje _ _ hj)) ht
  intro i t m₁ nx h gs tk I o' hi hj hI F' N' Q' hQ E₁ E₂
  refine turn i t m₁ nx h gs tk I o' hi hj hI F' N' Q' ⟨hQ.next, hQ.cont, fun h' gs tk m' nx' F₂ N₂ hj => hQ.brk _ (done _ _ _ _ _ hj F₂ N₂), hQ.ret⟩ E₁ E₂
noncomputable def numOf (t : List Nat) : Int := lawNumber ⟨t.toArray⟩
noncomputable def wordsOf : Nat → List Nat → List (List Nat)
  | 0, _ => []
  | n + 1, cs => if numOf (lexTok cs).1 = 0 then [(lexTok cs).1] else (lexTok cs).1 :: wordsOf n (lexTok cs).2
noncomputable def numsOf (text : List Nat) : List Int := (wordsOf (text.length + 1) text).map numOf
noncomputable def wvals (ws : List (List Nat × Tok)) : List Value := ws.map fun p => .str ⟨p.1.toArray⟩ p.2
theorem wvals_snoc (ws : List (List Nat × Tok)) (a : List Nat) (t : Tok) : wvals (ws ++ [(a, t)]) = wvals ws ++ [.str ⟨a.toArray⟩ t] := by simp [wvals]
theorem wvals_len (ws : List (List Nat × Tok)) : (wvals ws).length = ws.length := by simp [wvals]
theorem words_end {n i : Nat} {cs zs acc rest : List Nat} {pre : List (List Nat)} (h : wordsOf n cs = pre ++ wordsOf (n - i) zs) (hi : i < n) (hx : lexTok zs = (acc, rest)) (h0 : numOf acc = 0) : wordsOf n cs = pre ++ [acc] := by
  rw [h]
  obtain ⟨k, hk⟩ : ∃ k, n - i = k + 1 := ⟨_, sub_step hi⟩
  rw [hk]
  simp [wordsOf, hx, h0]
theorem words_step {n i : Nat} {cs zs acc rest : List Nat} {pre : List (List Nat)} (h : wordsOf n cs = pre ++ wordsOf (n - i) zs) (hi : i < n) (hx : lexTok zs = (acc, rest)) (h0 : ¬ numOf acc = 0) : wordsOf n cs = (pre ++ [acc]) ++ wordsOf (n - (i + 1)) rest := by
  rw [h]
  obtain ⟨k, hk⟩ : ∃ k, n - i = k + 1 := ⟨_, sub_step hi⟩
  have hk' : n - (i + 1) = k := sub_next hk
  rw [hk, hk']
  simp [wordsOf, hx, h0]
theorem RdAt.same {r : Rd} {t t' : List (Addr × Obj)} (W : RdAt r t) (e : t.map (·.1) = t'.map (·.1)) : RdAt r t' := by
  have key : ∀ {c : Addr}, TailOff c t → TailOff c t' := fun h => ⟨fun p hp => by
    have : p.1 ∈ t.map (·.1) := e ▸ List.mem_map_of_mem hp
    obtain ⟨q, hq, e⟩ := List.mem_map.mp this
    exact e ▸ h.ne q hq⟩
  exact ⟨W.ok, key W.offl, key W.offd, key W.offp, W.ccl, W.ccd, W.ccp⟩
theorem range_size (k : Nat) : Builtin.Range.rangeSize 0 ((k : Int) + 1) 1 = ((k + 1 : Nat) : Int) := by
  rw [rangeSize_nat]; omega
theorem range_small {k : Nat} (h : k ≤ 1000) : Builtin.Range.small 0 ((k : Int) + 1) 1 = true := small_one (by omega) (by omega) (by omega) (by omega)
theorem last_item {ws : List Value} {v : Value} {n : Nat} {prog : Program} {w : World} {A : Around} {E : Value → Shared → Prop} {s : Shared} {h₀ : Heap} {L D : Addr} {news : List (Addr × Obj)} {u : Tok} {value slice : PySem.Expr} {Q : Value → Shared → Prop}
    (N : News h₀ L s.heap news) (hm : (D, listOf (ws ++ [v]).toArray n) ∈ news) (h : Q v s)
    (hs : subscripted slice false (.ref D) (.int (-1) u) = operate [.ref D, .int (-1) u] (getItem (.ref D) (.int (-1) u)) := by with_unfolding_all rfl) :
    wpAny (model prog w) A (subscriptTail value slice (.ref D) (.int (-1) u)) Q E s := by
  have hl : s.heap.IsList D (ws ++ [v]).toArray := ⟨_, (N _ hm).1, rfl, n, rfl⟩
  refine tail_any hl.typeIs slot_list_getitem.lookup (wpAny_getItem_list_neg hl (by decide) ?_ (by decide) ?_ h) hs
  · simp; omega
  · simp only [List.size_toArray, List.length_append, List.length_cons, List.length_nil, List.getElem?_toArray]
    rw [show (-1 + ((ws.length + (0 + 1) : Nat) : Int)).toNat = ws.length from by omega]
    simp
noncomputable abbrev ClG (k : Nat) (prog : Program) (w : World) (K : Frag) (p : Program) (loose : List Str) (mean : ExcName → Option Value) (mg mb : Str → Option Value) (f : Addr) (news : List (Addr × Obj)) (mu : List Addr) (pre : Prop) (vs : List Value) (post : Value → List (Addr × Obj) → Prop) : Prop :=
  ∀ (dp un : Nat) (gd : Option (List Code)) (cn : Str) (cs : Scope) (a : Addr) (ccd : Value) (cl : List (Str × Addr)) (outer : List Env) (A₀ : Around) (base h₀ : Heap) (L : Addr) (m : Str → Option Value) (s : Shared) (Q E : Value → Shared → Prop),
    Below A₀ base outer h₀ → Fr h₀ L s.heap m → K.In h₀ → News h₀ L s.heap news → Top p loose mean mg mb h₀ → cs.kind = .function →
    pre → dp + k < recursionLimit → un + 64 * k < cLine →
    (∀ v news' h' gs' tk', post v news' → Fr h₀ L h' m → News h₀ L h' news' → ExtBut mu s.heap h' → Q v { s with heap := h', gens := gs', toks := tk' }) →
      codeAny (model prog w) (ktrTop dp un gd cn cs L a ccd cl outer) (.call (.ref f) ⟨vs, []⟩) (fun r s' => match r with | .ok (.ret v) => Q v s' | .ok _ => False | .error e => E e s') s
theorem news_sub {h₀ h : Heap} {L : Addr} {R R' : List (Addr × Obj)} (N : News h₀ L h R) (hs : ∀ p ∈ R', p ∈ R) : News h₀ L h R' := fun p hp => N p (hs p hp)
noncomputable def ivals (iv : List (Int × Tok)) : List Value := iv.map fun p => .int p.1 p.2
theorem ivals_at {iv : List (Int × Tok)} {i : Nat} {v : Value} (hv : (ivals iv)[i]? = some v) : ∃ p, iv[i]? = some p ∧ v = .int p.1 p.2 := by
  unfold ivals at hv
  rw [List.getElem?_map] at hv
  obtain ⟨p, hp, e⟩ := Option.map_eq_some_iff.mp hv
  exact ⟨p, hp, e.symm⟩
theorem ivals_len (iv : List (Int × Tok)) : (ivals iv).length = iv.length := by simp [ivals]
theorem wvals_at {ws : List (List Nat × Tok)} {vs : List Value} {i : Nat} {v : Value} (ev : vs = wvals ws) (hv : vs[i]? = some v) : ∃ p, ws[i]? = some p ∧ v = .str ⟨p.1.toArray⟩ p.2 := by
  subst ev
  unfold wvals at hv
  rw [List.getElem?_map] at hv
  obtain ⟨p, hp, e⟩ := Option.map_eq_some_iff.mp hv
  exact ⟨p, hp, e.symm⟩
theorem drop_at {α : Type} {l : List α} {i : Nat} {v : α} (h : l[i]? = some v) : l.drop i = v :: l.drop (i + 1) := by
  obtain ⟨hi, e⟩ := List.getElem?_eq_some_iff.mp h
  rw [List.drop_eq_getElem_cons hi, e]
theorem wvals_take {ws : List (List Nat × Tok)} {vs : List Value} (ev : vs = wvals ws) : ws.take vs.length = ws := by
  rw [ev, wvals_len, List.take_length]
local macro_rules | `(tactic| omega) => `(tactic| k_extra "omega")
theorem rg_ConX_0 : True := by
  k_with_none
  (k_with "omega" => (first | lia))
  trivial
theorem rg_ConX_1 : True := by
  k_with_none
  (k_with "my_cell_enter" => (refine' code_defCG (B := by k_asm) (F := by k_asm) (by k_asm) (N := by k_asm) (T := by k_asm) (hA := by exact rfl) (hf := by exact rfl) (hke := by assumption) (ho := by k_is) (hcd := by k_is) (hroom := by ktr_room) (hbind := by exact BindsTo.of_eq rfl) (hkind := by exact rfl) (hnd := by decide +kernel) ?_ (hco := by exact rfl) (hgen := by exact rfl) (hk := by exact rfl); k_whole; intro g' L' h' tk' cells' FG'; (show let m0 := _; Fr _ _ _ m0 → _); intro m0 F'; intro N' Y' B' X' T' l1 GS'; (try k_lt l1); (try (first | have tl' := TailLt.mk l1 | have tl' := TailLt.mk l1.2 | have tl' := TailLt.mk l1.2.2 | have tl' := TailLt.mk l1.2.2.2 | have tl' := TailLt.mk l1.2.2.2.2 | have tl' := TailLt.mk l1.2.2.2.2.2)); k_cells Y'; (try simp only [List.cons_append, List.nil_append] at N'); (try dsimp only); (try k_lift B'); (try k_fold); (show let A' := _; let Q' := _; let E' := _; wpAny _ A' _ Q' E' _); intro A' Q' E'))
  (k_with "eval Constant int" => (refine constI ?_))
  (k_with "eval Constant str" => (refine constS ?_))
  (k_with "eval Call" => ((show let Q9 := _; wpAny _ _ _ Q9 _ _); intro Q9; refine Call_ ?_))
  (k_with "eval Call Attribute" => ((show let Q9 := _; wpAny _ _ _ Q9 _ _); intro Q9; refine MethodCall_ ?_))
  (k_with "exec If" => ((show let Q9 := _; wpAny _ _ _ Q9 _ _); intro Q9; refine wpAny_If ?_))
  (k_with "exec Assign" => ((show let Q9 := _; wpAny _ _ _ Q9 _ _); intro Q9; refine wpAny_Assign_Name ?_))
  (k_with "exec AugAssign" => ((show let Q9 := _; wpAny _ _ _ Q9 _ _); intro Q9; refine wpAny_AugAssign_Name ?_))
  (k_with "eval BinOp" => ((show let Q9 := _; wpAny _ _ _ Q9 _ _); intro Q9; refine wpAny_BinOp ?_))
  (k_with "eval Compare" => ((show let Q9 := _; wpAny _ _ _ Q9 _ _); intro Q9; refine wpAny_Compare1 ?_))
  (k_with "isTrue Compare" => ((show let Q9 := _; wpAny _ _ _ Q9 _ _); intro Q9; refine wpAny_isTrue_Compare1 ?_))
  (k_with "eval Subscript" => ((show let Q9 := _; wpAny _ _ _ Q9 _ _); intro Q9; refine Subscript_ ?_))
  (k_with "my_k_all" => (refine' TailLt.ne (h := by assumption) (hc := by first | exact Nat.le_refl _ | omega)))
  (k_with "my_k_all" => (exact TailOff.ne (by assumption)))
  (k_with "my_k_all" => (exact allLt_ne (by assumption)))
  (k_with "a" => (with_reducible assumption))
  (k_with "cn" => (first | k_extra "a" | (apply And.right; first | k_extra "a" | (apply And.right; first | k_extra "a" | (apply And.right; first | k_extra "a" | (apply And.right; first | k_extra "a" | (apply And.right; first | k_extra "a" | (apply And.right; first | k_extra "a" | (apply And.right; first | k_extra "a" | (apply And.right; first | k_extra "a" | (apply And.right; first | k_extra "a" | (apply And.right; first | k_extra "a" | (apply And.right; first | k_extra "a" | (apply And.right; first | k_extra "a" | (apply And.right; k_extra "a")))))))))))))))
  (k_with "cj" => (first | k_extra "cn" | (apply And.left; k_extra "cn")))
  (k_with "lt" => ((first | (with_reducible show @LT.lt Nat _ _ _) | (with_reducible show @LE.le Nat _ _ _)); first | k_extra "cj" | (with_reducible refine Nat.lt_of_succ_lt ?_; k_extra "cj") | (with_reducible refine Nat.le_of_lt ?_; first | k_extra "cj" | (refine Nat.lt_of_succ_lt ?_; k_extra "cj")) | (with_reducible refine Nat.lt_trans ?_ (by with_reducible assumption); k_extra "lt")))
  (k_with "lt0" => (first | with_reducible exact Nat.lt_succ_self _ | with_reducible assumption | (with_reducible refine Nat.lt_succ_of_lt ?_; k_extra "lt0")))
  (k_with "my_k_ne" => (refine neN ?_; (try dsimp only); first | (refine Nat.ne_of_lt ?_; k_extra "lt0") | (refine Nat.ne_of_gt ?_; k_extra "lt0") | (refine Nat.ne_of_lt ?_; k_extra "lt") | (refine Nat.ne_of_gt ?_; k_extra "lt")))
  (k_with "call ref" => (k_here; k_dflt ((try dsimp only [List.nil_append, List.cons_append]); (with_reducible show wpAny _ _ (call (Value.ref 172) [Value.str _ _]) _ _ _); refine' g_makeA1 (F := by k_asm) (N := by k_asm) (hx := by assumption) (ht := by assumption) (hc := by exact Nat.ne_of_gt (by dsimp only; omega)) (B := by k_asm) (X := by k_asm) (T := by k_asm) (hk := by first | exact rfl | assumption) (hd := by first | assumption | ktr_room) (hu := by first | assumption | ktr_units | ktr_room) ?_); intro r9 tl9 zs9 nz9 h9 tk9 W9 zx9 al9 am9 an9 c19 c29 F9 N9 x9; have W8 := W9; obtain ⟨⟨oc1, oc2, oc3, o1, o2, o3, o4, o5, o6, o7, o8⟩, f1, f2, f3, n1, n2, n3⟩ := W9; clear an9; (try dsimp only at am9)))
  (k_with "call ref" => (k_here; k_dflt ((try dsimp only [List.nil_append, List.cons_append]); (with_reducible show wpAny _ _ (call (Value.ref 63) [Value.ref _]) _ _ _); refine' g_tok2 (F := by k_asm) (N := by k_asm) (W := by (refine' RdAt.same (by assumption) (by rfl))) (q1 := by (dsimp only; omega)) (q2 := by (dsimp only; omega)) (hz := by omega) (B := by k_asm) (X := by k_asm) (T := by k_asm) (hk := by first | exact rfl | assumption) (hd := by first | assumption | ktr_room) (hu := by first | assumption | ktr_units | ktr_room) ?_); intro ac8 t8 zs8 ln8 tl8 nz8 h8 tk8 lx8 le8 F8 N8 x8; have al8 : ac8.length ≤ 900 := (by omega); have sl8 : (⟨ac8.toArray⟩ : Str).length ≤ 1000 := (by simp [Str.length]; omega)))
  (k_with "call ref" => (k_here; k_dflt ((try dsimp only [List.nil_append, List.cons_append]); (with_reducible show wpAny _ _ (call (Value.ref 70) [Value.ref _, _]) _ _ _); refine' g_push2 (F := by k_asm) (N := by k_asm) (W := by (refine' RdAt.same (by assumption) (by rfl))) (q1 := by (dsimp only; omega)) (q2 := by (dsimp only; omega)) (hz := by assumption) (B := by k_asm) (X := by k_asm) (T := by k_asm) (hk := by first | exact rfl | assumption) (hd := by first | assumption | ktr_room) (hu := by first | assumption | ktr_units | ktr_room) ?_); intro _ _ _ _ _))
  (k_with "call ref" => (k_here; (with_reducible show wpAny _ _ (call (Value.ref 177) _) _ _ _); k_dflt (refine' cl_use (c_number _ _ _ _ _ _ _ _ _) (B := by k_asm) (F := by k_asm) (X := by k_asm) (N := by k_asm) (T := by k_asm) (hk := by first | exact rfl | assumption) (hp := by assumption) (hd := by first | assumption | ktr_room) (hu := by first | assumption | ktr_units | ktr_room) ?_); intro t9 h9 tk9 F9 N9 X9; (try dsimp only)))
  (k_with "call ref" => (k_here; (with_reducible show wpAny _ _ (call (Value.ref 151) _) _ _ _); k_dflt (refine' cl_use (c_iseof _ _ _ _ _ _ _ _ _) (B := by k_asm) (F := by k_asm) (X := by k_asm) (N := by k_asm) (T := by k_asm) (hk := by first | exact rfl | assumption) trivial (hd := by first | assumption | ktr_room) (hu := by first | assumption | ktr_units | ktr_room) ?_); intro t9 h9 tk9 F9 N9 X9; (try dsimp only)))
  (k_with "call ref" => (k_here; k_dflt ((try dsimp only [List.nil_append, List.cons_append]); (with_reducible show wpAny _ _ (call (Value.ref 63) [Value.ref _]) _ _ _); refine' g_pop4 (F := by k_asm) (N := by k_asm) (W := by (refine' RdAt.same (by assumption) (by rfl))) (q1 := by (dsimp only; omega)) (q2 := by (dsimp only; omega)) (q3 := by (dsimp only; omega)) (q4 := by (dsimp only; omega)) (hz := by assumption) (B := by k_asm) (X := by k_asm) (T := by k_asm) (hk := by first | exact rfl | assumption) (hd := by first | assumption | ktr_room) (hu := by first | assumption | ktr_units | ktr_room) ?_); intro _ _ _ _ _))
  (k_with "eval ListComp" => (k_here; k_dflt (refine' compJ_eval (hclos := by exact rfl) (hcell := by decide) (hkind := by exact rfl) (hnames := by decide) (hx := by exact rfl) ?_ (hs := by exact fun _ => rfl)); (try dsimp only)))
  (k_with "exec For Name Call cons nil" => (k_here; k_dflt (refine' wpAny_For ?_ (hs := by exact fun _ => rfl))))
  (k_with "exec For Name Name cons nil" => (k_here; k_dflt (refine' wpAny_For ?_ (hs := by exact fun _ => rfl))))
  (k_with "call builtin:list.append" => (k_here; (with_reducible show wpAny _ _ (call (Value.builtin _) [Value.ref _, _]) _ _ _); k_dflt (refine' append_K (F := by k_asm) (N := by k_asm) (U := by k_upd) ?_ (hsz := by (rw [sizeLine_eq]; simp only [List.size_toArray]; omega)); k_whole); intro _ _ _))
  (k_with "eval Name" => (k_here; (fail_if_success (with_reducible show wpAny _ _ (eval _ (compEnvC _ _ _ _)) _ _ _)); k_dflt (refine' nameX_L2 (hx := by rfl) (hk := by rfl) (hd := by rfl) (F := by k_asm) (hv := by (first | exact rfl | assumption | ((repeat refine (if_neg (by decide)).trans ?_); first | assumption | exact if_pos rfl))) ?_; k_whole)))
  (k_with "subscriptTail" => (k_here; (with_reducible show wpAny _ _ (subscriptTail _ _ (Value.ref _) (Value.int _ _)) _ _ _); k_dflt (refine' last_item (N := by k_asm) (hm := by k_mem) ?_ (hs := by with_unfolding_all rfl))))
  (k_with "omega" => (first | k_extra "lt" | lia))
  trivial
inductive NumJ (w : World) (r9 : Rd) (wl L' : Addr) (cellO : Obj) (tail : List (Addr × Obj)) (x : Str) (i : Nat) (m : Str → Option Value) (nx : List (Addr × Obj)) : Prop
  | mk (ws : List (List Nat × Tok)) (vs : List Value) (zs' : List (Nat × Tok)) (ln' : Int) (tl' : Tok) (nz' nw : Nat) : (vs = wvals ws) → (nx = (wl, listOf vs.toArray nw) :: (r9.pr, listOf [].toArray 0) :: (r9.xr, instObj 73 r9.dr) :: (r9.dr, r9.lex w.params ln' tl') :: (r9.f, lamObj r9.cL r9.cc r9.pm r9.ctv) :: (r9.cc, r9.oc) :: (r9.ps, listOf #[] 0) :: (r9.xs, instObj 73 r9.ds) :: (r9.ds, r9.str w.params) :: (r9.l, listOf (valsOf zs').reverse.toArray nz') :: (r9.cL, r9.oC) :: (167, tabObj #[rawInt 187, rawInt 18, .ref r9.cc]) :: (L' + 1, cellO) :: tail) → (m (Str.ofString "words") = some (.ref wl)) → (wordsOf (x.length + 1) x.cps.toList = ws.map Prod.fst ++ wordsOf (x.length + 1 - i) (zs'.map Prod.fst)) → (ws.length = i) → (zs'.length ≤ x.length) → (∀ p ∈ ws, p.1.length ≤ 900) → NumJ w r9 wl L' cellO tail x i m nx
inductive NumE (w : World) (r9 : Rd) (wl L' : Addr) (cellO : Obj) (tail : List (Addr × Obj)) (x : Str) (m : Str → Option Value) (nx : List (Addr × Obj)) : Prop
  | mk (ws : List (List Nat × Tok)) (vs : List Value) (zs' : List (Nat × Tok)) (ln' : Int) (tl' : Tok) (nz' nw : Nat) : (vs = wvals ws) → (nx = (wl, listOf vs.toArray nw) :: (r9.pr, listOf [].toArray 0) :: (r9.xr, instObj 73 r9.dr) :: (r9.dr, r9.lex w.params ln' tl') :: (r9.f, lamObj r9.cL r9.cc r9.pm r9.ctv) :: (r9.cc, r9.oc) :: (r9.ps, listOf #[] 0) :: (r9.xs, instObj 73 r9.ds) :: (r9.ds, r9.str w.params) :: (r9.l, listOf (valsOf zs').reverse.toArray nz') :: (r9.cL, r9.oC) :: (167, tabObj #[rawInt 187, rawInt 18, .ref r9.cc]) :: (L' + 1, cellO) :: tail) → (m (Str.ofString "words") = some (.ref wl)) → (wordsOf (x.length + 1) x.cps.toList = ws.map Prod.fst) → (ws.length ≤ x.length + 1) → (∀ p ∈ ws, p.1.length ≤ 900) → NumE w r9 wl L' cellO tail x m nx
inductive NumJ2 (w : World) (r9 : Rd) (wl L' : Addr) (cellO : Obj) (tail : List (Addr × Obj)) (vs : List Value) (nw : Nat) (zs' : List (Nat × Tok)) (ln' : Int) (tl' : Tok) (nz' : Nat) (i : Nat) (m : Str → Option Value) (nx : List (Addr × Obj)) : Prop
  | mk (pv : List Value) (np2 : Nat) : (pv = vs.take i) → (nx = (wl, listOf vs.toArray nw) :: (r9.pr, listOf pv.toArray np2) :: (r9.xr, instObj 73 r9.dr) :: (r9.dr, r9.lex w.params ln' tl') :: (r9.f, lamObj r9.cL r9.cc r9.pm r9.ctv) :: (r9.cc, r9.oc) :: (r9.ps, listOf #[] 0) :: (r9.xs, instObj 73 r9.ds) :: (r9.ds, r9.str w.params) :: (r9.l, listOf (valsOf zs').reverse.toArray nz') :: (r9.cL, r9.oC) :: (167, tabObj #[rawInt 187, rawInt 18, .ref r9.cc]) :: (L' + 1, cellO) :: tail) → (m (Str.ofString "words") = some (.ref wl)) → NumJ2 w r9 wl L' cellO tail vs nw zs' ln' tl' nz' i m nx
inductive NumJ3 (w : World) (r9 : Rd) (wl L' : Addr) (cellO : Obj) (tail : List (Addr × Obj)) (vs : List Value) (nw : Nat) (zs' : List (Nat × Tok)) (ln' : Int) (tl' : Tok) (nz' : Nat) (ws : List (List Nat × Tok)) (i : Nat) (ys : List Value) (nx : List (Addr × Obj)) : Prop
  | mk (pv : List Value) (np3 : Nat) (iv : List (Int × Tok)) : (pv = vs.drop i) → (nx = (wl, listOf vs.toArray nw) :: (r9.pr, listOf pv.toArray np3) :: (r9.xr, instObj 73 r9.dr) :: (r9.dr, r9.lex w.params ln' tl') :: (r9.f, lamObj r9.cL r9.cc r9.pm r9.ctv) :: (r9.cc, r9.oc) :: (r9.ps, listOf #[] 0) :: (r9.xs, instObj 73 r9.ds) :: (r9.ds, r9.str w.params) :: (r9.l, listOf (valsOf zs').reverse.toArray nz') :: (r9.cL, r9.oC) :: (167, tabObj #[rawInt 187, rawInt 18, .ref r9.cc]) :: (L' + 1, cellO) :: tail) → (ys = ivals iv) → (iv.map Prod.fst = (ws.take i).map fun p => numOf p.1) → NumJ3 w r9 wl L' cellO tail vs nw zs' ln' tl' nz' ws i ys nx
set_option maxHeartbeats 4000000 in
theorem c_numbers (w : World) (q : Program) (mean : ExcName → Option Value) (mg mb : Str → Option Value) (loose : List Str) (tail : List (Addr × Obj)) (x : Str) (tx : Tok) :
  ClG 9 rw_sn0078_01.row.prog w (K0 w.params) q loose mean mg mb 182 ((167, tabObj #[]) :: tail) [167] (x.length ≤ 900 ∧ TailOff 167 tail) [.str x tx]
    (fun v news' => ∃ D nD iv cc oc vs tq, v = .ref D ∧ news' = (D, listOf (ivals iv).toArray nD) :: (167, tabObj #[rawInt 187, rawInt 18, .ref cc]) :: (cc, oc) :: tail ∧ iv.map Prod.fst = numsOf x.cps.toList ∧ oc.data = .fields vs ∧ vs[1]? = some (.str (Str.ofString "_law_reader.<locals>.<lambda>") tq) ∧ AllLt cc ((167, tabObj #[]) :: tail) ∧ @LT.lt Nat _ cc D) := by
  k_fill
  dsimp only [ClG]; intros; rename_i hpre _ _ hret; obtain ⟨hx, hoff⟩ := hpre
  have hx' : x.length ≤ 1000 := by omega
  have hcp : x.cps.toList.length = x.length := by simp [Str.length]
  k_dflt cell_enter
  k_steps
  rename_i cellO dS _ wl hA lw hB FB NB _ _ hC tkC t1 u1 v1 hr FC NC kC
  have hzl : zs9.length = x.length := by rw [← hcp, ← zx9, List.length_map]
  refine' forRangeB (x.length + 1) (NumJ w r9 wl L' cellO tail x)
    (NumE w r9 wl L' cellO tail x) ?hh FC NC hr ?hs ?hn ⟨[], [], zs9, 1, tl9, _, 0, rfl, rfl, ?m0, ?w0, rfl, ?z0, ?p0⟩ ?adr ?je ?turn ?done ?ht
  case hh => exact rfl
  case hs =>
    exact range_small (by omega)
  case hn => exact range_size x.length
  case m0 => rfl
  case w0 => rw [zx9]; rfl
  case z0 => omega
  case p0 => intro p hp; cases hp
  case ht => exact fun _ _ => rfl
  case adr =>
    rintro i m nx ⟨ws, vs, zs', ln', tl', nz', nw, ev, rfl, _⟩ p hp
    have hp' := List.mem_map_of_mem (f := Prod.fst) hp
    exact List.mem_map.mp hp'
  case je =>
    rintro m nx ⟨ws, vs, zs', ln', tl', nz', nw, ev, e, hm, hw, hl, hz, hp⟩
    refine ⟨ws, vs, zs', ln', tl', nz', nw, ev, e, hm, ?_, by omega, hp⟩
    rw [hw, Nat.sub_self]; simp [wordsOf]
  case turn =>
    rintro i ti m₁ nx hh gs tkk I o' hi ⟨ws, vs, zs', ln', tl', nz', nw, ev, rfl, hm, hw, hl, hz, hp⟩ hI F' N' Q' hQ E₁ E₂
    have hvl : vs.length ≤ 901 := by rw [ev, wvals_len]; omega
    k_lt hI
    refine wpAny_assign_Name ?_
    k_steps
    all_goals (try dsimp only)
    all_goals (try simp only [List.push_toArray] at N9)
    · refine hQ.brk _ _ _ _ _ (by assumption) (fun p hp => N9 p (.tail _ hp)) ⟨ws ++ [(ac8, t8)], _, zs8, ln8, tl8, nz8, _, by rw [ev, wvals_snoc], rfl, ?_, ?_, by simp; omega, ?_⟩
      · exact (if_neg (by decide)).trans hm
      · rw [List.map_append]; exact words_end hw hi lx8 (by assumption)
      · intro p hp'; rcases List.mem_append.mp hp' with h | h
        · exact hp p h
        · rw [List.mem_singleton.mp h]; exact al8
    · refine hQ.next _ _ _ _ _ (by assumption) N9 ⟨ws ++ [(ac8, t8)], _, zs8, ln8, tl8, nz8, _, by rw [ev, wvals_snoc], rfl, ?_, ?_, by simp; omega, by omega, ?_⟩
      · exact (if_neg (by decide)).trans hm
      · rw [List.map_append]; exact words_step hw hi lx8 (by assumption)
      · intro p hp'; rcases List.mem_append.mp hp' with h | h
        · exact hp p h
        · rw [List.mem_singleton.mp h]; exact al8
  case done =>
    rintro m₁ nx hh gs tkk ⟨ws, vs, zs', ln', tl', nz', nw, ev, rfl, hm, hw, hl, hp⟩ F' N'
    have hvl : vs.length ≤ 901 := by rw [ev, wvals_len]; omega
    dsimp only
    k_steps
    refine' forList (vs := vs) (NumJ2 w r9 wl L' cellO tail vs nw zs' ln' tl' nz') ?hh F' N' (.head _) ⟨[], 0, rfl, rfl, hm⟩ ?adr ?jd ?turn ?done ?ht
    case hh => exact rfl
    case ht => exact fun _ _ => rfl
    case adr =>
      rintro i m nx ⟨pv, np2, ev, rfl, _⟩ p hp
      have hp' := List.mem_map_of_mem (f := Prod.fst) hp
      exact List.mem_map.mp hp'
    case jd =>
      rintro i m nx ⟨pv, np2, ev, rfl, _⟩
      exact .head _
    case turn =>
      rintro i v m₂ nx hh gs tkk I o' hv ⟨pv, np2, ep, rfl, hm2⟩ hI F' N' Q' hQ E₁ E₂
      have hpv : pv.length ≤ 1000 := by rw [ep, List.length_take]; omega
      k_lt hI
      refine wpAny_assign_Name ?_
      k_steps
      refine' hQ.next _ _ _ _ _ (by assumption) (by assumption) ⟨pv ++ [v], _, ?e1, rfl, ?e2⟩
      case e1 => rw [List.take_add_one, hv, ep]; rfl
      case e2 => exact (if_neg (by decide)).trans hm2
    case done =>
      rintro m₂ nx hh gs tkk ⟨pv, np2, ep, rfl, hm2⟩ F' N'
      rw [List.take_length] at ep
      have ep' := ep.symm
      subst ep'
      dsimp only
      k_steps
      refine' compList (vs := vs) (NumJ3 w r9 wl L' cellO tail vs nw zs' ln' tl' nz' ws) ?hh F' N' (.head _) ?hsz ⟨_, np2, [], rfl, rfl, rfl, rfl⟩ ?adr ?hlen ?jd ?turn ?done
      case hh => exact rfl
      case hsz => rw [sizeLine_eq]; omega
      case adr =>
        rintro i ys nx ⟨pv, np2, iv, ep, rfl, _⟩ p hp
        have hp' := List.mem_map_of_mem (f := Prod.fst) hp
        exact List.mem_map.mp hp'
      case hlen =>
        rintro i ys nx ⟨pv, np2, iv, ep, _, rfl, e⟩
        have := congrArg List.length e
        simp only [List.length_map, List.length_take] at this
        simp only [ivals, List.length_map]; omega
      case jd =>
        rintro i ys nx ⟨pv, np2, iv, ep, rfl, _⟩
        exact .head _
      case turn =>
        rintro i v ys nx D C I nD oC o' hh gs tkk mC hv ⟨pv, np3, iv, ep, rfl, ey, eiv⟩ hI hID hDC hC hmC F' N' Q' hQ E₁ E₂
        obtain ⟨p, hpi, rfl⟩ := wvals_at ev hv
        rw [drop_at hv] at ep
        subst ep
        have hpv : (vs.drop (i + 1)).length ≤ 1000 := by rw [List.length_drop]; omega
        have hpl : (⟨p.1.toArray⟩ : Str).length ≤ 1000 := by
          have := hp p (List.mem_of_getElem? hpi)
          simp [Str.length]; omega
        k_lt hI
        refine wpAny_tests_nil ?_
        rw [if_pos rfl]
        k_steps
        refine' hQ.next _ _ _ _ _ (by assumption) N9 ⟨vs.drop (i + 1), _, iv ++ [(numOf p.1, t9)], rfl, rfl, ?e1, ?e2⟩
        case e1 => rw [ey]; simp [ivals, numOf]
        case e2 => rw [List.map_append, eiv, List.take_add_one, hpi, List.map_append]; rfl
      case done =>
        rintro D nD ys nx hh gs tkk ⟨pv, np3, iv, ep, rfl, ey, eiv⟩ hD F' N'
        k_lt hD
        rw [wvals_take ev] at eiv
        subst ey
        dsimp only
        k_steps
        refine' hret _ _ _ _ _ ⟨D, nD, iv, r9.cc, r9.oc, r9.vs, r9.tq, rfl, rfl, ?e1, oc2, oc3, ⟨by dsimp only; omega, TailLt.up (L := L') (by assumption) (by omega)⟩, ?e2⟩ (by k_asm) ?nn ?ext
        case e1 =>
          rw [eiv]; unfold numsOf
          rw [hcp, hw, List.map_map]; rfl
        case e2 => omega
        case nn => exact news_sub (by assumption) (by simp only [List.forall_mem_cons]; exact ⟨.head _, by k_mem, by k_mem, fun p hp => by repeat (first | assumption | refine List.mem_cons_of_mem _ ?_)⟩)
        case ext => exact clm_ext (by assumption) (by assumption) (by assumption) (by assumption) (List.forall_mem_cons.mpr ⟨.inl (.head _), fun p hp => .inr (by repeat (first | assumption | refine List.mem_cons_of_mem _ ?_))⟩)
theorem rg_ConF0_0 : True := by
  k_with_none
  (k_with "omega" => (first | lia))
  trivial
noncomputable def fallsOf : List (List Nat) → List Nat → List Nat → List Int → Bool
  | hand, c1, c2, [] => (match hand with
    | [] => decide (numOf (lexTok c1).1 = 0)
    | w :: _ => decide (numOf w = 0)) && decide (numOf (lexTok c2).1 = 0)
  | [], c1, c2, n :: ns => if numOf (lexTok c1).1 = n then fallsOf [] (lexTok c1).2 c2 ns else if numOf (lexTok c2).1 = n then fallsOf [(lexTok c1).1] (lexTok c1).2 (lexTok c2).2 ns else false
  | w :: _, c1, c2, n :: ns => if numOf w = n then fallsOf [] c1 c2 ns else if numOf (lexTok c2).1 = n then fallsOf [w] c1 (lexTok c2).2 ns else false
theorem falls_hit0 {c1 c2 w c1' : List Nat} {n : Int} {ns : List Int} (hx : lexTok c1 = (w, c1')) (h : numOf w = n) : fallsOf [] c1 c2 (n :: ns) = fallsOf [] c1' c2 ns := by
  simp [fallsOf, hx, h]
theorem falls_left0 {c1 c2 w c1' v c2' : List Nat} {n : Int} {ns : List Int} (hx : lexTok c1 = (w, c1')) (h : numOf w ≠ n) (hy : lexTok c2 = (v, c2')) (h2 : numOf v = n) : fallsOf [] c1 c2 (n :: ns) = fallsOf [w] c1' c2' ns := by
  simp [fallsOf, hx, h, hy, h2]
theorem falls_no0 {c1 c2 w c1' v c2' : List Nat} {n : Int} {ns : List Int} (hx : lexTok c1 = (w, c1')) (h : numOf w ≠ n) (hy : lexTok c2 = (v, c2')) (h2 : numOf v ≠ n) : fallsOf [] c1 c2 (n :: ns) = false := by
  simp [fallsOf, hx, h, hy, h2]
theorem falls_hit1 {c1 c2 w : List Nat} {n : Int} {ns : List Int} (h : numOf w = n) : fallsOf [w] c1 c2 (n :: ns) = fallsOf [] c1 c2 ns := by
  simp [fallsOf, h]
theorem falls_left1 {c1 c2 w v c2' : List Nat} {n : Int} {ns : List Int} (h : numOf w ≠ n) (hy : lexTok c2 = (v, c2')) (h2 : numOf v = n) : fallsOf [w] c1 c2 (n :: ns) = fallsOf [w] c1 c2' ns := by
  simp [fallsOf, h, hy, h2]
theorem falls_no1 {c1 c2 w v c2' : List Nat} {n : Int} {ns : List Int} (h : numOf w ≠ n) (hy : lexTok c2 = (v, c2')) (h2 : numOf v ≠ n) : fallsOf [w] c1 c2 (n :: ns) = false := by
  simp [fallsOf, h, hy, h2]
theorem falls_end0 {c1 c2 w c1' v c2' : List Nat} (hx : lexTok c1 = (w, c1')) (h : numOf w = 0) (hy : lexTok c2 = (v, c2')) : fallsOf [] c1 c2 [] = decide (numOf v = 0) := by
  simp [fallsOf, hx, h, hy]
theorem falls_end0' {c1 c2 w c1' : List Nat} (hx : lexTok c1 = (w, c1')) (h : ¬ numOf w = 0) : fallsOf [] c1 c2 [] = decide (numOf w = 0) := by
  simp [fallsOf, hx, h]
theorem falls_end1 {c1 c2 w v c2' : List Nat} (h : numOf w = 0) (hy : lexTok c2 = (v, c2')) : fallsOf [w] c1 c2 [] = decide (numOf v = 0) := by
  simp [fallsOf, h, hy]
theorem falls_end1' {c1 c2 w : List Nat} (h : ¬ numOf w = 0) : fallsOf [w] c1 c2 [] = decide (numOf w = 0) := by
  simp [fallsOf, h]
section
variable {w : World} {q : Program} {mean : ExcName → Option Value} {mg mb : Str → Option Value} {loose : List Str} {tail : List (Addr × Obj)} {r r2 : Rd} {ln ln2 : Int} {tl tl2 : Tok} {np nz np2 nz2 : Nat} {pv pv2 zl zl2 : List Value} {zs : List (Nat × Tok)} {cc : Addr} {oc : Obj} {I : Addr × Obj}
  {dp un : Nat} {gd : Option (List Code)} {cn : Str} {cs : Scope} {a : Addr} {ccd : Value} {cl : List (Str × Addr)} {outer : List Env} {A₀ : Around} {base h₀ : Heap} {L : Addr} {m : Str → Option Value} {s : Shared} {E : Value → Shared → Prop}
structure Two (r r2 : Rd) (cc : Addr) (tail : List (Addr × Obj)) : Prop where
  w1 : RdAt r tail
  k2 : r2.Ok
  c0 : @LT.lt Nat _ 167 r.cL
  c1 : @LT.lt Nat _ cc r.cL
  e2 : r2.cc = cc
  up : @LT.lt Nat _ r.pr r2.cL
theorem two_off (W : Two r r2 cc tail) (x1 x2 x3 x4 x5 x6 x7 x8 x9 x10 x11 x12 : Obj) : OffRd r [(r2.pr, x1), (r2.xr, x2), (r2.dr, x3), (r2.f, x4), (r2.cc, x5), (r2.ps, x6), (r2.xs, x7), (r2.ds, x8), (r2.l, x9), (r2.cL, x10), (167, x11), (cc, x12)] := by
  obtain ⟨⟨⟨_, _, _, o1, o2, o3, o4, o5, o6, o7, o8⟩, _⟩, ⟨_, _, _, u1, u2, u3, u4, u5, u6, u7, u8⟩, c0, c1, e2, up⟩ := W
  have e2' : @LT.lt Nat _ r2.cc r.cL := e2 ▸ c1
  have hd : @LT.lt Nat _ r.l r.dr := Nat.lt_trans o2 (Nat.lt_trans o3 (Nat.lt_trans o4 (Nat.lt_trans o5 o6)))
  have hp : @LT.lt Nat _ r.dr r.pr := Nat.lt_trans o7 o8
  have hi : ∀ x : Nat, @LT.lt Nat _ r.pr x → (x : Addr) ≠ r.l ∧ (x : Addr) ≠ r.dr ∧ (x : Addr) ≠ r.pr := fun x h => ⟨Nat.ne_of_gt (Nat.lt_trans hd (Nat.lt_trans hp h)), Nat.ne_of_gt (Nat.lt_trans hp h), Nat.ne_of_gt h⟩
  have lo : ∀ x : Nat, @LT.lt Nat _ x r.cL → (x : Addr) ≠ r.l ∧ (x : Addr) ≠ r.dr ∧ (x : Addr) ≠ r.pr := fun x h => have h1 := Nat.lt_trans h o1; ⟨Nat.ne_of_lt h1, Nat.ne_of_lt (Nat.lt_trans h1 hd), Nat.ne_of_lt (Nat.lt_trans h1 (Nat.lt_trans hd hp))⟩
  have v1 := Nat.lt_trans up u1
  have v2 := Nat.lt_trans v1 u2
  have v3 := Nat.lt_trans v2 u3
  have v4 := Nat.lt_trans v3 u4
  have v5 := Nat.lt_trans v4 u5
  have v6 := Nat.lt_trans v5 u6
  have v7 := Nat.lt_trans v6 u7
  have v8 := Nat.lt_trans v7 u8
  simp only [OffRd, List.forall_mem_cons]
  exact ⟨hi _ v8, hi _ v7, hi _ v6, hi _ v5, lo _ e2', hi _ v4, hi _ v3, hi _ v2, hi _ v1, hi _ up, lo _ c0, lo _ c1, fun p hp => by cases hp⟩
theorem one_off {p1 : Addr × Obj} (W : Two r r2 cc tail) (h : @LT.lt Nat _ r.pr p1.1) : p1.1 ≠ r.l ∧ p1.1 ≠ r.dr ∧ p1.1 ≠ r.pr := by
  obtain ⟨⟨⟨_, _, _, o1, o2, o3, o4, o5, o6, o7, o8⟩, _⟩, _, c0, c1, e2, up⟩ := W
  have hd : @LT.lt Nat _ r.l r.dr := Nat.lt_trans o2 (Nat.lt_trans o3 (Nat.lt_trans o4 (Nat.lt_trans o5 o6)))
  have hp : @LT.lt Nat _ r.dr r.pr := Nat.lt_trans o7 o8
  exact ⟨Nat.ne_of_gt (Nat.lt_trans hd (Nat.lt_trans hp h)), Nat.ne_of_gt (Nat.lt_trans hp h), Nat.ne_of_gt h⟩
theorem f_tok0 {Q : Value → Shared → Prop} (F : Fr h₀ L s.heap m) (N : News h₀ L s.heap ((r2.pr, listOf pv2.toArray np2) :: (r2.xr, instObj 73 r2.dr) :: (r2.dr, r2.lex w.params ln2 tl2) :: (r2.f, lamObj r2.cL r2.cc r2.pm r2.ctv) :: (r2.cc, r2.oc) :: (r2.ps, listOf #[] 0) :: (r2.xs, instObj 73 r2.ds) :: (r2.ds, r2.str w.params) :: (r2.l, listOf zl2.toArray nz2) :: (r2.cL, r2.oC) :: (167, tabObj #[rawInt 187, rawInt 18, .ref cc]) :: (cc, oc) :: (r.pr, listOf [].toArray np) :: (r.xr, instObj 73 r.dr) :: (r.dr, r.lex w.params ln tl) :: (r.f, lamObj r.cL r.cc r.pm r.ctv) :: (r.cc, r.oc) :: (r.ps, listOf #[] 0) :: (r.xs, instObj 73 r.ds) :: (r.ds, r.str w.params) :: (r.l, listOf (valsOf zs).reverse.toArray nz) :: (r.cL, r.oC) :: tail))
    (W : Two r r2 cc tail)  (hz : zs.length ≤ 1000) (B : Below A₀ base outer h₀) (X : (K0 w.params).In h₀) (T : Top q loose mean mg mb h₀) (hk : cs.kind = .function) (hd : dp + 5 < recursionLimit) (hu : un + 64 * 5 < cLine)
    (h : ∀ acc t zs' ln' tl' nz' h' tk', lexTok (zs.map Prod.fst) = (acc, zs'.map Prod.fst) → zs'.length + acc.length ≤ zs.length → Fr h₀ L h' m → News h₀ L h' ((r2.pr, listOf pv2.toArray np2) :: (r2.xr, instObj 73 r2.dr) :: (r2.dr, r2.lex w.params ln2 tl2) :: (r2.f, lamObj r2.cL r2.cc r2.pm r2.ctv) :: (r2.cc, r2.oc) :: (r2.ps, listOf #[] 0) :: (r2.xs, instObj 73 r2.ds) :: (r2.ds, r2.str w.params) :: (r2.l, listOf zl2.toArray nz2) :: (r2.cL, r2.oC) :: (167, tabObj #[rawInt 187, rawInt 18, .ref cc]) :: (cc, oc) :: (r.pr, listOf [].toArray np) :: (r.xr, instObj 73 r.dr) :: (r.dr, r.lex w.params ln' tl') :: (r.f, lamObj r.cL r.cc r.pm r.ctv) :: (r.cc, r.oc) :: (r.ps, listOf #[] 0) :: (r.xs, instObj 73 r.ds) :: (r.ds, r.str w.params) :: (r.l, listOf (valsOf zs').reverse.toArray nz') :: (r.cL, r.oC) :: tail) → ExtBut [r.l, r.dr] s.heap h' → Q (.str ⟨acc.toArray⟩ t) { s with heap := h', toks := tk' }) :
    wpAny (model rw_sn0078_01.row.prog w) (ktrTop dp un gd cn cs L a ccd cl outer) (call (.ref 63) [.ref r.xr]) Q E s :=
  g_tokP (pre := [(r2.pr, listOf pv2.toArray np2), (r2.xr, instObj 73 r2.dr), (r2.dr, r2.lex w.params ln2 tl2), (r2.f, lamObj r2.cL r2.cc r2.pm r2.ctv), (r2.cc, r2.oc), (r2.ps, listOf #[] 0), (r2.xs, instObj 73 r2.ds), (r2.ds, r2.str w.params), (r2.l, listOf zl2.toArray nz2), (r2.cL, r2.oC), (167, tabObj #[rawInt 187, rawInt 18, .ref cc]), (cc, oc)]) F N W.w1 (two_off W _ _ _ _ _ _ _ _ _ _ _ _) hz B X T hk hd hu h
theorem f_pop0 {v : Value} {Q : Value → Shared → Prop} (F : Fr h₀ L s.heap m) (N : News h₀ L s.heap ((r2.pr, listOf pv2.toArray np2) :: (r2.xr, instObj 73 r2.dr) :: (r2.dr, r2.lex w.params ln2 tl2) :: (r2.f, lamObj r2.cL r2.cc r2.pm r2.ctv) :: (r2.cc, r2.oc) :: (r2.ps, listOf #[] 0) :: (r2.xs, instObj 73 r2.ds) :: (r2.ds, r2.str w.params) :: (r2.l, listOf zl2.toArray nz2) :: (r2.cL, r2.oC) :: (167, tabObj #[rawInt 187, rawInt 18, .ref cc]) :: (cc, oc) :: (r.pr, listOf (v :: pv).toArray np) :: (r.xr, instObj 73 r.dr) :: (r.dr, r.lex w.params ln tl) :: (r.f, lamObj r.cL r.cc r.pm r.ctv) :: (r.cc, r.oc) :: (r.ps, listOf #[] 0) :: (r.xs, instObj 73 r.ds) :: (r.ds, r.str w.params) :: (r.l, listOf zl.toArray nz) :: (r.cL, r.oC) :: tail))
    (W : Two r r2 cc tail)  (hz : pv.length ≤ 1000) (B : Below A₀ base outer h₀) (X : (K0 w.params).In h₀) (T : Top q loose mean mg mb h₀) (hk : cs.kind = .function) (hd : dp + 2 < recursionLimit) (hu : un + 64 * 2 < cLine)
    (h : ∀ h' tk', Fr h₀ L h' m → News h₀ L h' ((r2.pr, listOf pv2.toArray np2) :: (r2.xr, instObj 73 r2.dr) :: (r2.dr, r2.lex w.params ln2 tl2) :: (r2.f, lamObj r2.cL r2.cc r2.pm r2.ctv) :: (r2.cc, r2.oc) :: (r2.ps, listOf #[] 0) :: (r2.xs, instObj 73 r2.ds) :: (r2.ds, r2.str w.params) :: (r2.l, listOf zl2.toArray nz2) :: (r2.cL, r2.oC) :: (167, tabObj #[rawInt 187, rawInt 18, .ref cc]) :: (cc, oc) :: (r.pr, listOf pv.toArray (np + 1)) :: (r.xr, instObj 73 r.dr) :: (r.dr, r.lex w.params ln tl) :: (r.f, lamObj r.cL r.cc r.pm r.ctv) :: (r.cc, r.oc) :: (r.ps, listOf #[] 0) :: (r.xs, instObj 73 r.ds) :: (r.ds, r.str w.params) :: (r.l, listOf zl.toArray nz) :: (r.cL, r.oC) :: tail) → ExtBut [r.pr] s.heap h' → Q v { s with heap := h', toks := tk' }) :
    wpAny (model rw_sn0078_01.row.prog w) (ktrTop dp un gd cn cs L a ccd cl outer) (call (.ref 63) [.ref r.xr]) Q E s :=
  g_popP (pre := [(r2.pr, listOf pv2.toArray np2), (r2.xr, instObj 73 r2.dr), (r2.dr, r2.lex w.params ln2 tl2), (r2.f, lamObj r2.cL r2.cc r2.pm r2.ctv), (r2.cc, r2.oc), (r2.ps, listOf #[] 0), (r2.xs, instObj 73 r2.ds), (r2.ds, r2.str w.params), (r2.l, listOf zl2.toArray nz2), (r2.cL, r2.oC), (167, tabObj #[rawInt 187, rawInt 18, .ref cc]), (cc, oc)]) F N W.w1 (two_off W _ _ _ _ _ _ _ _ _ _ _ _) hz B X T hk hd hu h
theorem f_push0 {v : Value} {Q : Value → Shared → Prop} (F : Fr h₀ L s.heap m) (N : News h₀ L s.heap ((r2.pr, listOf pv2.toArray np2) :: (r2.xr, instObj 73 r2.dr) :: (r2.dr, r2.lex w.params ln2 tl2) :: (r2.f, lamObj r2.cL r2.cc r2.pm r2.ctv) :: (r2.cc, r2.oc) :: (r2.ps, listOf #[] 0) :: (r2.xs, instObj 73 r2.ds) :: (r2.ds, r2.str w.params) :: (r2.l, listOf zl2.toArray nz2) :: (r2.cL, r2.oC) :: (167, tabObj #[rawInt 187, rawInt 18, .ref cc]) :: (cc, oc) :: (r.pr, listOf pv.toArray np) :: (r.xr, instObj 73 r.dr) :: (r.dr, r.lex w.params ln tl) :: (r.f, lamObj r.cL r.cc r.pm r.ctv) :: (r.cc, r.oc) :: (r.ps, listOf #[] 0) :: (r.xs, instObj 73 r.ds) :: (r.ds, r.str w.params) :: (r.l, listOf zl.toArray nz) :: (r.cL, r.oC) :: tail))
    (W : Two r r2 cc tail)  (hz : pv.length ≤ 1000) (B : Below A₀ base outer h₀) (X : (K0 w.params).In h₀) (T : Top q loose mean mg mb h₀) (hk : cs.kind = .function) (hd : dp + 2 < recursionLimit) (hu : un + 64 * 2 < cLine)
    (h : ∀ h' tk', Fr h₀ L h' m → News h₀ L h' ((r2.pr, listOf pv2.toArray np2) :: (r2.xr, instObj 73 r2.dr) :: (r2.dr, r2.lex w.params ln2 tl2) :: (r2.f, lamObj r2.cL r2.cc r2.pm r2.ctv) :: (r2.cc, r2.oc) :: (r2.ps, listOf #[] 0) :: (r2.xs, instObj 73 r2.ds) :: (r2.ds, r2.str w.params) :: (r2.l, listOf zl2.toArray nz2) :: (r2.cL, r2.oC) :: (167, tabObj #[rawInt 187, rawInt 18, .ref cc]) :: (cc, oc) :: (r.pr, listOf (pv ++ [v]).toArray (np + 1)) :: (r.xr, instObj 73 r.dr) :: (r.dr, r.lex w.params ln tl) :: (r.f, lamObj r.cL r.cc r.pm r.ctv) :: (r.cc, r.oc) :: (r.ps, listOf #[] 0) :: (r.xs, instObj 73 r.ds) :: (r.ds, r.str w.params) :: (r.l, listOf zl.toArray nz) :: (r.cL, r.oC) :: tail) → ExtBut [r.pr] s.heap h' → Q .none { s with heap := h', toks := tk' }) :
    wpAny (model rw_sn0078_01.row.prog w) (ktrTop dp un gd cn cs L a ccd cl outer) (call (.ref 70) [.ref r.xr, v]) Q E s :=
  g_pushP (pre := [(r2.pr, listOf pv2.toArray np2), (r2.xr, instObj 73 r2.dr), (r2.dr, r2.lex w.params ln2 tl2), (r2.f, lamObj r2.cL r2.cc r2.pm r2.ctv), (r2.cc, r2.oc), (r2.ps, listOf #[] 0), (r2.xs, instObj 73 r2.ds), (r2.ds, r2.str w.params), (r2.l, listOf zl2.toArray nz2), (r2.cL, r2.oC), (167, tabObj #[rawInt 187, rawInt 18, .ref cc]), (cc, oc)]) F N W.w1 (two_off W _ _ _ _ _ _ _ _ _ _ _ _) hz B X T hk hd hu h
theorem f_tok1 {p1 : Addr × Obj} {Q : Value → Shared → Prop} (F : Fr h₀ L s.heap m) (N : News h₀ L s.heap (p1 :: (r2.pr, listOf pv2.toArray np2) :: (r2.xr, instObj 73 r2.dr) :: (r2.dr, r2.lex w.params ln2 tl2) :: (r2.f, lamObj r2.cL r2.cc r2.pm r2.ctv) :: (r2.cc, r2.oc) :: (r2.ps, listOf #[] 0) :: (r2.xs, instObj 73 r2.ds) :: (r2.ds, r2.str w.params) :: (r2.l, listOf zl2.toArray nz2) :: (r2.cL, r2.oC) :: (167, tabObj #[rawInt 187, rawInt 18, .ref cc]) :: (cc, oc) :: (r.pr, listOf [].toArray np) :: (r.xr, instObj 73 r.dr) :: (r.dr, r.lex w.params ln tl) :: (r.f, lamObj r.cL r.cc r.pm r.ctv) :: (r.cc, r.oc) :: (r.ps, listOf #[] 0) :: (r.xs, instObj 73 r.ds) :: (r.ds, r.str w.params) :: (r.l, listOf (valsOf zs).reverse.toArray nz) :: (r.cL, r.oC) :: tail))
    (W : Two r r2 cc tail) (q1 : @LT.lt Nat _ r.pr p1.1) (hz : zs.length ≤ 1000) (B : Below A₀ base outer h₀) (X : (K0 w.params).In h₀) (T : Top q loose mean mg mb h₀) (hk : cs.kind = .function) (hd : dp + 5 < recursionLimit) (hu : un + 64 * 5 < cLine)
    (h : ∀ acc t zs' ln' tl' nz' h' tk', lexTok (zs.map Prod.fst) = (acc, zs'.map Prod.fst) → zs'.length + acc.length ≤ zs.length → Fr h₀ L h' m → News h₀ L h' (p1 :: (r2.pr, listOf pv2.toArray np2) :: (r2.xr, instObj 73 r2.dr) :: (r2.dr, r2.lex w.params ln2 tl2) :: (r2.f, lamObj r2.cL r2.cc r2.pm r2.ctv) :: (r2.cc, r2.oc) :: (r2.ps, listOf #[] 0) :: (r2.xs, instObj 73 r2.ds) :: (r2.ds, r2.str w.params) :: (r2.l, listOf zl2.toArray nz2) :: (r2.cL, r2.oC) :: (167, tabObj #[rawInt 187, rawInt 18, .ref cc]) :: (cc, oc) :: (r.pr, listOf [].toArray np) :: (r.xr, instObj 73 r.dr) :: (r.dr, r.lex w.params ln' tl') :: (r.f, lamObj r.cL r.cc r.pm r.ctv) :: (r.cc, r.oc) :: (r.ps, listOf #[] 0) :: (r.xs, instObj 73 r.ds) :: (r.ds, r.str w.params) :: (r.l, listOf (valsOf zs').reverse.toArray nz') :: (r.cL, r.oC) :: tail) → ExtBut [r.l, r.dr] s.heap h' → Q (.str ⟨acc.toArray⟩ t) { s with heap := h', toks := tk' }) :
    wpAny (model rw_sn0078_01.row.prog w) (ktrTop dp un gd cn cs L a ccd cl outer) (call (.ref 63) [.ref r.xr]) Q E s :=
  g_tokP (pre := [p1, (r2.pr, listOf pv2.toArray np2), (r2.xr, instObj 73 r2.dr), (r2.dr, r2.lex w.params ln2 tl2), (r2.f, lamObj r2.cL r2.cc r2.pm r2.ctv), (r2.cc, r2.oc), (r2.ps, listOf #[] 0), (r2.xs, instObj 73 r2.ds), (r2.ds, r2.str w.params), (r2.l, listOf zl2.toArray nz2), (r2.cL, r2.oC), (167, tabObj #[rawInt 187, rawInt 18, .ref cc]), (cc, oc)]) F N W.w1 (List.forall_mem_cons.mpr ⟨one_off W q1, two_off W _ _ _ _ _ _ _ _ _ _ _ _⟩) hz B X T hk hd hu h
theorem f_pop1 {p1 : Addr × Obj} {v : Value} {Q : Value → Shared → Prop} (F : Fr h₀ L s.heap m) (N : News h₀ L s.heap (p1 :: (r2.pr, listOf pv2.toArray np2) :: (r2.xr, instObj 73 r2.dr) :: (r2.dr, r2.lex w.params ln2 tl2) :: (r2.f, lamObj r2.cL r2.cc r2.pm r2.ctv) :: (r2.cc, r2.oc) :: (r2.ps, listOf #[] 0) :: (r2.xs, instObj 73 r2.ds) :: (r2.ds, r2.str w.params) :: (r2.l, listOf zl2.toArray nz2) :: (r2.cL, r2.oC) :: (167, tabObj #[rawInt 187, rawInt 18, .ref cc]) :: (cc, oc) :: (r.pr, listOf (v :: pv).toArray np) :: (r.xr, instObj 73 r.dr) :: (r.dr, r.lex w.params ln tl) :: (r.f, lamObj r.cL r.cc r.pm r.ctv) :: (r.cc, r.oc) :: (r.ps, listOf #[] 0) :: (r.xs, instObj 73 r.ds) :: (r.ds, r.str w.params) :: (r.l, listOf zl.toArray nz) :: (r.cL, r.oC) :: tail))
    (W : Two r r2 cc tail) (q1 : @LT.lt Nat _ r.pr p1.1) (hz : pv.length ≤ 1000) (B : Below A₀ base outer h₀) (X : (K0 w.params).In h₀) (T : Top q loose mean mg mb h₀) (hk : cs.kind = .function) (hd : dp + 2 < recursionLimit) (hu : un + 64 * 2 < cLine)
    (h : ∀ h' tk', Fr h₀ L h' m → News h₀ L h' (p1 :: (r2.pr, listOf pv2.toArray np2) :: (r2.xr, instObj 73 r2.dr) :: (r2.dr, r2.lex w.params ln2 tl2) :: (r2.f, lamObj r2.cL r2.cc r2.pm r2.ctv) :: (r2.cc, r2.oc) :: (r2.ps, listOf #[] 0) :: (r2.xs, instObj 73 r2.ds) :: (r2.ds, r2.str w.params) :: (r2.l, listOf zl2.toArray nz2) :: (r2.cL, r2.oC) :: (167, tabObj #[rawInt 187, rawInt 18, .ref cc]) :: (cc, oc) :: (r.pr, listOf pv.toArray (np + 1)) :: (r.xr, instObj 73 r.dr) :: (r.dr, r.lex w.params ln tl) :: (r.f, lamObj r.cL r.cc r.pm r.ctv) :: (r.cc, r.oc) :: (r.ps, listOf #[] 0) :: (r.xs, instObj 73 r.ds) :: (r.ds, r.str w.params) :: (r.l, listOf zl.toArray nz) :: (r.cL, r.oC) :: tail) → ExtBut [r.pr] s.heap h' → Q v { s with heap := h', toks := tk' }) :
    wpAny (model rw_sn0078_01.row.prog w) (ktrTop dp un gd cn cs L a ccd cl outer) (call (.ref 63) [.ref r.xr]) Q E s :=
  g_popP (pre := [p1, (r2.pr, listOf pv2.toArray np2), (r2.xr, instObj 73 r2.dr), (r2.dr, r2.lex w.params ln2 tl2), (r2.f, lamObj r2.cL r2.cc r2.pm r2.ctv), (r2.cc, r2.oc), (r2.ps, listOf #[] 0), (r2.xs, instObj 73 r2.ds), (r2.ds, r2.str w.params), (r2.l, listOf zl2.toArray nz2), (r2.cL, r2.oC), (167, tabObj #[rawInt 187, rawInt 18, .ref cc]), (cc, oc)]) F N W.w1 (List.forall_mem_cons.mpr ⟨one_off W q1, two_off W _ _ _ _ _ _ _ _ _ _ _ _⟩) hz B X T hk hd hu h
theorem f_push1 {p1 : Addr × Obj} {v : Value} {Q : Value → Shared → Prop} (F : Fr h₀ L s.heap m) (N : News h₀ L s.heap (p1 :: (r2.pr, listOf pv2.toArray np2) :: (r2.xr, instObj 73 r2.dr) :: (r2.dr, r2.lex w.params ln2 tl2) :: (r2.f, lamObj r2.cL r2.cc r2.pm r2.ctv) :: (r2.cc, r2.oc) :: (r2.ps, listOf #[] 0) :: (r2.xs, instObj 73 r2.ds) :: (r2.ds, r2.str w.params) :: (r2.l, listOf zl2.toArray nz2) :: (r2.cL, r2.oC) :: (167, tabObj #[rawInt 187, rawInt 18, .ref cc]) :: (cc, oc) :: (r.pr, listOf pv.toArray np) :: (r.xr, instObj 73 r.dr) :: (r.dr, r.lex w.params ln tl) :: (r.f, lamObj r.cL r.cc r.pm r.ctv) :: (r.cc, r.oc) :: (r.ps, listOf #[] 0) :: (r.xs, instObj 73 r.ds) :: (r.ds, r.str w.params) :: (r.l, listOf zl.toArray nz) :: (r.cL, r.oC) :: tail))
    (W : Two r r2 cc tail) (q1 : @LT.lt Nat _ r.pr p1.1) (hz : pv.length ≤ 1000) (B : Below A₀ base outer h₀) (X : (K0 w.params).In h₀) (T : Top q loose mean mg mb h₀) (hk : cs.kind = .function) (hd : dp + 2 < recursionLimit) (hu : un + 64 * 2 < cLine)
    (h : ∀ h' tk', Fr h₀ L h' m → News h₀ L h' (p1 :: (r2.pr, listOf pv2.toArray np2) :: (r2.xr, instObj 73 r2.dr) :: (r2.dr, r2.lex w.params ln2 tl2) :: (r2.f, lamObj r2.cL r2.cc r2.pm r2.ctv) :: (r2.cc, r2.oc) :: (r2.ps, listOf #[] 0) :: (r2.xs, instObj 73 r2.ds) :: (r2.ds, r2.str w.params) :: (r2.l, listOf zl2.toArray nz2) :: (r2.cL, r2.oC) :: (167, tabObj #[rawInt 187, rawInt 18, .ref cc]) :: (cc, oc) :: (r.pr, listOf (pv ++ [v]).toArray (np + 1)) :: (r.xr, instObj 73 r.dr) :: (r.dr, r.lex w.params ln tl) :: (r.f, lamObj r.cL r.cc r.pm r.ctv) :: (r.cc, r.oc) :: (r.ps, listOf #[] 0) :: (r.xs, instObj 73 r.ds) :: (r.ds, r.str w.params) :: (r.l, listOf zl.toArray nz) :: (r.cL, r.oC) :: tail) → ExtBut [r.pr] s.heap h' → Q .none { s with heap := h', toks := tk' }) :
    wpAny (model rw_sn0078_01.row.prog w) (ktrTop dp un gd cn cs L a ccd cl outer) (call (.ref 70) [.ref r.xr, v]) Q E s :=
  g_pushP (pre := [p1, (r2.pr, listOf pv2.toArray np2), (r2.xr, instObj 73 r2.dr), (r2.dr, r2.lex w.params ln2 tl2), (r2.f, lamObj r2.cL r2.cc r2.pm r2.ctv), (r2.cc, r2.oc), (r2.ps, listOf #[] 0), (r2.xs, instObj 73 r2.ds), (r2.ds, r2.str w.params), (r2.l, listOf zl2.toArray nz2), (r2.cL, r2.oC), (167, tabObj #[rawInt 187, rawInt 18, .ref cc]), (cc, oc)]) F N W.w1 (List.forall_mem_cons.mpr ⟨one_off W q1, two_off W _ _ _ _ _ _ _ _ _ _ _ _⟩) hz B X T hk hd hu h
theorem g_tok0 {Q : Value → Shared → Prop} (F : Fr h₀ L s.heap m) (N : News h₀ L s.heap ((r.pr, listOf [].toArray np) :: (r.xr, instObj 73 r.dr) :: (r.dr, r.lex w.params ln tl) :: (r.f, lamObj r.cL r.cc r.pm r.ctv) :: (r.cc, r.oc) :: (r.ps, listOf #[] 0) :: (r.xs, instObj 73 r.ds) :: (r.ds, r.str w.params) :: (r.l, listOf (valsOf zs).reverse.toArray nz) :: (r.cL, r.oC) :: tail))
    (W : RdAt r tail) (hz : zs.length ≤ 1000) (B : Below A₀ base outer h₀) (X : (K0 w.params).In h₀) (T : Top q loose mean mg mb h₀) (hk : cs.kind = .function) (hd : dp + 5 < recursionLimit) (hu : un + 64 * 5 < cLine)
    (h : ∀ acc t zs' ln' tl' nz' h' tk', lexTok (zs.map Prod.fst) = (acc, zs'.map Prod.fst) → zs'.length + acc.length ≤ zs.length → Fr h₀ L h' m → News h₀ L h' ((r.pr, listOf [].toArray np) :: (r.xr, instObj 73 r.dr) :: (r.dr, r.lex w.params ln' tl') :: (r.f, lamObj r.cL r.cc r.pm r.ctv) :: (r.cc, r.oc) :: (r.ps, listOf #[] 0) :: (r.xs, instObj 73 r.ds) :: (r.ds, r.str w.params) :: (r.l, listOf (valsOf zs').reverse.toArray nz') :: (r.cL, r.oC) :: tail) → ExtBut [r.l, r.dr] s.heap h' → Q (.str ⟨acc.toArray⟩ t) { s with heap := h', toks := tk' }) :
    wpAny (model rw_sn0078_01.row.prog w) (ktrTop dp un gd cn cs L a ccd cl outer) (call (.ref 63) [.ref r.xr]) Q E s :=
  g_tokP (pre := []) F N W (fun p hp => by cases hp) hz B X T hk hd hu h
theorem g_makeB {x : Str} {tx : Tok} {vs : Array Value} {tq : Tok} {Q : Value → Shared → Prop} (F : Fr h₀ L s.heap m) (N : News h₀ L s.heap ((167, tabObj #[rawInt 187, rawInt 18, .ref cc]) :: (cc, oc) :: tail)) (hx : x.length ≤ 1000) (ht : TailOff 167 tail) (ho : oc.data = .fields vs) (hv : vs[1]? = some (.str (Str.ofString "_law_reader.<locals>.<lambda>") tq)) (B : Below A₀ base outer h₀) (X : (K0 w.params).In h₀) (T : Top q loose mean mg mb h₀) (hk : cs.kind = .function) (hd : dp + 2 < recursionLimit) (hu : un + 64 * 2 < cLine)
    (h : ∀ (r : Rd) tl zs nz h' tk', r.Ok → RdAt r ((167, tabObj #[rawInt 187, rawInt 18, .ref cc]) :: (cc, oc) :: tail) → zs.map Prod.fst = x.cps.toList → @LT.lt Nat _ 167 r.cL → @LT.lt Nat _ cc r.cL → AllLt r.cL tail → r.cc = cc → r.oc = oc → Fr h₀ L h' m →
      News h₀ L h' ((r.pr, listOf [].toArray 0) :: (r.xr, instObj 73 r.dr) :: (r.dr, r.lex w.params 1 tl) :: (r.f, lamObj r.cL r.cc r.pm r.ctv) :: (r.cc, r.oc) :: (r.ps, listOf #[] 0) :: (r.xs, instObj 73 r.ds) :: (r.ds, r.str w.params) :: (r.l, listOf (valsOf zs).reverse.toArray nz) :: (r.cL, r.oC) :: (167, tabObj #[rawInt 187, rawInt 18, .ref cc]) :: (cc, oc) :: tail) → ExtBut [] s.heap h' → Q (.ref r.xr) { s with heap := h', toks := tk' }) :
    wpAny (model rw_sn0078_01.row.prog w) (ktrTop dp un gd cn cs L a ccd cl outer) (call (.ref 172) [.str x tx]) Q E s := by
  refine wpAny_call (c_readerB w q mean mg mb loose tail x tx cc oc vs tq dp un gd cn cs a ccd cl outer A₀ base h₀ L m s Q E B F X N T hk ⟨hx, ht, ho, hv⟩ hd hu ?_)
  rintro v news' h' tk' ⟨r, tl, zs, n, ok, rfl, rfl, hs, hal, c1, c2⟩ F' N' x'
  obtain ⟨cs', rfl, e⟩ := vals_of_strs hs
  have o := ok
  obtain ⟨_, _, _, o1, o2, o3, o4, o5, o6, o7, o8⟩ := o
  have lo : ∀ {d : Addr}, @LE.le Nat _ r.cL d → TailOff d ((167, tabObj #[rawInt 187, rawInt 18, .ref cc]) :: (cc, oc) :: tail) := fun hd => tail_off (c := r.cL) (show AllLt r.cL ((167, tabObj #[rawInt 187, rawInt 18, .ref cc]) :: (cc, oc) :: tail) from hal) hd
  have hcl : @LT.lt Nat _ r.cc r.cL := c1 ▸ hal.2.1
  refine h r tl cs' n h' tk' ok ⟨ok, lo (by omega), lo (by omega), lo (by omega), ?_, ?_, ?_⟩ e hal.1 hal.2.1 hal.2.2 c1 c2 F' N' x'
  · exact Nat.ne_of_lt (by omega)
  · exact Nat.ne_of_lt (by omega)
  · exact Nat.ne_of_lt (by omega)
theorem mem_rot {α : Type} {p a b : α} {t : List α} : ∀ (l : List α), p ∈ a :: b :: (l ++ t) → p ∈ l ++ a :: b :: t := by
  intro l h
  simp only [List.mem_cons, List.mem_append] at h ⊢
  rcases h with h | h | h | h
  · exact .inr (.inl h)
  · exact .inr (.inr (.inl h))
  · exact .inl h
  · exact .inr (.inr (.inr h))
theorem g_makeB2 {x : Str} {tx : Tok} {vs : Array Value} {tq : Tok} {Q : Value → Shared → Prop} (F : Fr h₀ L s.heap m) (N : News h₀ L s.heap ((r.pr, listOf pv.toArray np) :: (r.xr, instObj 73 r.dr) :: (r.dr, r.lex w.params ln tl) :: (r.f, lamObj r.cL r.cc r.pm r.ctv) :: (r.cc, r.oc) :: (r.ps, listOf #[] 0) :: (r.xs, instObj 73 r.ds) :: (r.ds, r.str w.params) :: (r.l, listOf zl.toArray nz) :: (r.cL, r.oC) :: (167, tabObj #[rawInt 187, rawInt 18, .ref cc]) :: (cc, oc) :: tail)) (hx : x.length ≤ 1000) (W : RdAt r ((167, tabObj #[rawInt 187, rawInt 18, .ref cc]) :: (cc, oc) :: tail)) (hw0 : @LT.lt Nat _ 167 r.cL) (hw1 : @LT.lt Nat _ cc r.cL) (hcc : r.cc = cc) (hcx : neN' cc 167) (ht : TailOff 167 tail) (ho : oc.data = .fields vs) (hv : vs[1]? = some (.str (Str.ofString "_law_reader.<locals>.<lambda>") tq)) (B : Below A₀ base outer h₀) (X : (K0 w.params).In h₀) (T : Top q loose mean mg mb h₀) (hk : cs.kind = .function) (hd : dp + 2 < recursionLimit) (hu : un + 64 * 2 < cLine)
    (h : ∀ (r2 : Rd) tl2 zs2 nz2 h' tk', Two r r2 cc tail → RdAt r2 ((167, tabObj #[rawInt 187, rawInt 18, .ref cc]) :: (cc, oc) :: (r.pr, listOf pv.toArray np) :: (r.xr, instObj 73 r.dr) :: (r.dr, r.lex w.params ln tl) :: (r.f, lamObj r.cL r.cc r.pm r.ctv) :: (r.cc, r.oc) :: (r.ps, listOf #[] 0) :: (r.xs, instObj 73 r.ds) :: (r.ds, r.str w.params) :: (r.l, listOf zl.toArray nz) :: (r.cL, r.oC) :: tail) → zs2.map Prod.fst = x.cps.toList → r2.oc = oc → Fr h₀ L h' m →
      News h₀ L h' ((r2.pr, listOf [].toArray 0) :: (r2.xr, instObj 73 r2.dr) :: (r2.dr, r2.lex w.params 1 tl2) :: (r2.f, lamObj r2.cL r2.cc r2.pm r2.ctv) :: (r2.cc, r2.oc) :: (r2.ps, listOf #[] 0) :: (r2.xs, instObj 73 r2.ds) :: (r2.ds, r2.str w.params) :: (r2.l, listOf (valsOf zs2).reverse.toArray nz2) :: (r2.cL, r2.oC) :: (167, tabObj #[rawInt 187, rawInt 18, .ref cc]) :: (cc, oc) :: (r.pr, listOf pv.toArray np) :: (r.xr, instObj 73 r.dr) :: (r.dr, r.lex w.params ln tl) :: (r.f, lamObj r.cL r.cc r.pm r.ctv) :: (r.cc, r.oc) :: (r.ps, listOf #[] 0) :: (r.xs, instObj 73 r.ds) :: (r.ds, r.str w.params) :: (r.l, listOf zl.toArray nz) :: (r.cL, r.oC) :: tail) → ExtBut [] s.heap h' → Q (.ref r2.xr) { s with heap := h', toks := tk' }) :
    wpAny (model rw_sn0078_01.row.prog w) (ktrTop dp un gd cn cs L a ccd cl outer) (call (.ref 172) [.str x tx]) Q E s := by
  have W' := W
  obtain ⟨⟨_, _, _, o1, o2, o3, o4, o5, o6, o7, o8⟩, f1, f2, f3, n1, n2, n3⟩ := W'
  have dr : ∀ {d : Addr}, TailOff d ((167, tabObj #[rawInt 187, rawInt 18, .ref cc]) :: (cc, oc) :: tail) → TailOff d tail := fun h => ⟨fun p hp => h.ne p (.tail _ (.tail _ hp))⟩
  refine g_makeB (tail := (r.pr, listOf pv.toArray np) :: (r.xr, instObj 73 r.dr) :: (r.dr, r.lex w.params ln tl) :: (r.f, lamObj r.cL r.cc r.pm r.ctv) :: (r.cc, r.oc) :: (r.ps, listOf #[] 0) :: (r.xs, instObj 73 r.ds) :: (r.ds, r.str w.params) :: (r.l, listOf zl.toArray nz) :: (r.cL, r.oC) :: tail) F (fun p hp => N p ?_) hx ?_ ho hv B X T hk hd hu fun r2 tl2 zs2 nz2 h' tk' ok w2 e a0 a1 al e1 e2 F' N' x' => h r2 tl2 zs2 nz2 h' tk' ⟨⟨W.ok, dr f1, dr f2, dr f3, n1, n2, n3⟩, ok, hw0, hw1, e1, al.1⟩ w2 e e2 F' N' x'
  · exact mem_rot ((r.pr, listOf pv.toArray np) :: (r.xr, instObj 73 r.dr) :: (r.dr, r.lex w.params ln tl) :: (r.f, lamObj r.cL r.cc r.pm r.ctv) :: (r.cc, r.oc) :: (r.ps, listOf #[] 0) :: (r.xs, instObj 73 r.ds) :: (r.ds, r.str w.params) :: (r.l, listOf zl.toArray nz) :: [(r.cL, r.oC)]) hp
  · refine ⟨?_⟩
    have e' : @LT.lt Nat _ r.cc r.cL := hcc ▸ hw1
    simp only [List.forall_mem_cons]
    refine ⟨?_, ?_, ?_, ?_, ?_, ?_, ?_, ?_, ?_, ?_, fun p hp => ht.ne p hp⟩ <;> first | exact Nat.ne_of_gt (by omega) | (rw [hcc]; exact hcx)
end
theorem rg_ConF1_0 : True := by
  k_with_none
  (k_with "omega" => (first | lia))
  trivial
theorem rg_ConF1_1 : True := by
  k_with_none
  (k_with "my_cell_enter" => (refine' code_defG (B := by k_asm) (F := by k_asm) (by k_asm) (N := by k_asm) (T := by k_asm) (hA := by exact rfl) (hf := by exact rfl) (hke := by assumption) (ho := by k_is) (hcd := by k_is) (hroom := by ktr_room) (hbind := by exact BindsTo.of_eq rfl) (hloc := by exact locs rfl) ?_ (hco := by exact rfl) (hgen := by exact rfl) (hk := by exact rfl) (hcell := by decide); k_whole; intro g' L' h' FG'; (show let m0 := _; Fr _ _ _ m0 → _); intro m0 F'; intro N' B' X' T' GS'; (try dsimp only); (try k_lift B'); (try k_fold); (show let A' := _; let Q' := _; let E' := _; wpAny _ A' _ Q' E' _); intro A' Q' E'))
  (k_with "eval Constant int" => (refine constI ?_))
  (k_with "eval Constant str" => (refine constS ?_))
  (k_with "eval Call" => ((show let Q9 := _; wpAny _ _ _ Q9 _ _); intro Q9; refine Call_ ?_))
  (k_with "eval Call Attribute" => ((show let Q9 := _; wpAny _ _ _ Q9 _ _); intro Q9; refine MethodCall_ ?_))
  (k_with "exec If" => ((show let Q9 := _; wpAny _ _ _ Q9 _ _); intro Q9; refine wpAny_If ?_))
  (k_with "exec Assign" => ((show let Q9 := _; wpAny _ _ _ Q9 _ _); intro Q9; refine wpAny_Assign_Name ?_))
  (k_with "exec AugAssign" => ((show let Q9 := _; wpAny _ _ _ Q9 _ _); intro Q9; refine wpAny_AugAssign_Name ?_))
  (k_with "eval BinOp" => ((show let Q9 := _; wpAny _ _ _ Q9 _ _); intro Q9; refine wpAny_BinOp ?_))
  (k_with "eval Compare" => ((show let Q9 := _; wpAny _ _ _ Q9 _ _); intro Q9; refine wpAny_Compare1 ?_))
  (k_with "isTrue Compare" => ((show let Q9 := _; wpAny _ _ _ Q9 _ _); intro Q9; refine wpAny_isTrue_Compare1 ?_))
  (k_with "eval Subscript" => ((show let Q9 := _; wpAny _ _ _ Q9 _ _); intro Q9; refine Subscript_ ?_))
  (k_with "my_k_all" => (exact TailOff.ne (by assumption)))
  (k_with "my_k_all" => (exact allLt_ne (by assumption)))
  (k_with "a" => (with_reducible assumption))
  (k_with "lt" => ((first | (with_reducible show @LT.lt Nat _ _ _) | (with_reducible show @LE.le Nat _ _ _)); first | k_extra "a" | (with_reducible refine Nat.lt_of_succ_lt ?_; k_extra "a") | (with_reducible refine Nat.le_of_lt ?_; first | k_extra "a" | (refine Nat.lt_of_succ_lt ?_; k_extra "a")) | (with_reducible refine Nat.lt_trans ?_ (by with_reducible assumption); k_extra "lt")))
  (k_with "lt0" => (first | with_reducible exact Nat.lt_succ_self _ | with_reducible assumption | (with_reducible refine Nat.lt_succ_of_lt ?_; k_extra "lt0")))
  (k_with "my_k_ne" => (refine neN ?_; (try dsimp only); first | (refine Nat.ne_of_lt ?_; k_extra "lt0") | (refine Nat.ne_of_gt ?_; k_extra "lt0") | (refine Nat.ne_of_lt ?_; k_extra "lt") | (refine Nat.ne_of_gt ?_; k_extra "lt")))
  (k_with "call ref" => (k_here; k_dflt ((try dsimp only [List.nil_append, List.cons_append]); (with_reducible show wpAny _ _ (call (Value.ref 172) [Value.str _ _]) _ _ _); refine' g_makeB (F := by k_asm) (N := by k_asm) (hx := by assumption) (ht := by assumption) (ho := by assumption) (hv := by assumption) (B := by k_asm) (X := by k_asm) (T := by k_asm) (hk := by first | exact rfl | assumption) (hd := by first | assumption | ktr_room) (hu := by first | assumption | ktr_units | ktr_room) ?_); intro r9 tl9 zs9 nz9 h9 tk9 ok9 W9 zx9 al9 am9 an9 ec9 eo9 F9 N9 x9))
  (k_with "call ref" => (k_here; k_dflt ((try dsimp only [List.nil_append, List.cons_append]); (with_reducible show wpAny _ _ (call (Value.ref 172) [Value.str _ _]) _ _ _); refine' g_makeB2 (F := by k_asm) (N := by k_asm) (hx := by assumption) (W := by assumption) (hw0 := by assumption) (hw1 := by assumption) (hcc := by assumption) (hcx := by assumption) (ht := by assumption) (ho := by assumption) (hv := by assumption) (B := by k_asm) (X := by k_asm) (T := by k_asm) (hk := by first | exact rfl | assumption) (hd := by first | assumption | ktr_room) (hu := by first | assumption | ktr_units | ktr_room) ?_); intro r8 tl8 zs8 nz8 h8 tk8 W7 W8 zx8 eo8 F8 N8 x8))
  (k_with "call ref" => (k_here; k_dflt ((try dsimp only [List.nil_append, List.cons_append]); (with_reducible show wpAny _ _ (call (Value.ref 63) [Value.ref _]) _ _ _); refine' f_tok0 (F := by k_asm) (N := by k_asm) (W := by assumption) (hz := by omega) (B := by k_asm) (X := by k_asm) (T := by k_asm) (hk := by first | exact rfl | assumption) (hd := by first | assumption | ktr_room) (hu := by first | assumption | ktr_units | ktr_room) ?_); intro ac5 t5 zz5 ln5 tl5 nz5 h5 tk5 lx5 le5 F5 N5 x5; have al5 : ac5.length ≤ 900 := (by omega); have sl5 : (⟨ac5.toArray⟩ : Str).length ≤ 1000 := (by simp [Str.length]; omega)))
  (k_with "call ref" => (k_here; k_dflt ((try dsimp only [List.nil_append, List.cons_append]); (with_reducible show wpAny _ _ (call (Value.ref 63) [Value.ref _]) _ _ _); refine' f_pop0 (F := by k_asm) (N := by k_asm) (W := by assumption) (hz := by first | assumption | exact Nat.zero_le _) (B := by k_asm) (X := by k_asm) (T := by k_asm) (hk := by first | exact rfl | assumption) (hd := by first | assumption | ktr_room) (hu := by first | assumption | ktr_units | ktr_room) ?_); intro h5 tk5 F5 N5 x5))
  (k_with "call ref" => (k_here; k_dflt ((try dsimp only [List.nil_append, List.cons_append]); (with_reducible show wpAny _ _ (call (Value.ref 70) [Value.ref _, _]) _ _ _); refine' f_push0 (F := by k_asm) (N := by k_asm) (W := by assumption) (hz := by first | assumption | exact Nat.zero_le _) (B := by k_asm) (X := by k_asm) (T := by k_asm) (hk := by first | exact rfl | assumption) (hd := by first | assumption | ktr_room) (hu := by first | assumption | ktr_units | ktr_room) ?_); intro h4 tk4 F4 N4 x4))
  (k_with "call ref" => (k_here; k_dflt ((try dsimp only [List.nil_append, List.cons_append]); (with_reducible show wpAny _ _ (call (Value.ref 63) [Value.ref _]) _ _ _); refine' g_tok0 (F := by k_asm) (N := by k_asm) (W := by first | assumption | (refine' RdAt.same (by assumption) (by rfl))) (hz := by omega) (B := by k_asm) (X := by k_asm) (T := by k_asm) (hk := by first | exact rfl | assumption) (hd := by first | assumption | ktr_room) (hu := by first | assumption | ktr_units | ktr_room) ?_); intro ac6 t6 zz6 ln6 tl6 nz6 h6 tk6 lx6 le6 F6 N6 x6; have al6 : ac6.length ≤ 900 := (by omega); have sl6 : (⟨ac6.toArray⟩ : Str).length ≤ 1000 := (by simp [Str.length]; omega)))
  (k_with "call ref" => (k_here; k_dflt ((try dsimp only [List.nil_append, List.cons_append]); (with_reducible show wpAny _ _ (call (Value.ref 63) [Value.ref _]) _ _ _); refine' f_tok1 (F := by k_asm) (N := by k_asm) (W := by assumption) (q1 := by (dsimp only; omega)) (hz := by omega) (B := by k_asm) (X := by k_asm) (T := by k_asm) (hk := by first | exact rfl | assumption) (hd := by first | assumption | ktr_room) (hu := by first | assumption | ktr_units | ktr_room) ?_); intro ac5 t5 zz5 ln5 tl5 nz5 h5 tk5 lx5 le5 F5 N5 x5; have al5 : ac5.length ≤ 900 := (by omega); have sl5 : (⟨ac5.toArray⟩ : Str).length ≤ 1000 := (by simp [Str.length]; omega)))
  (k_with "call ref" => (k_here; k_dflt ((try dsimp only [List.nil_append, List.cons_append]); (with_reducible show wpAny _ _ (call (Value.ref 63) [Value.ref _]) _ _ _); refine' f_pop1 (F := by k_asm) (N := by k_asm) (W := by assumption) (q1 := by (dsimp only; omega)) (hz := by first | assumption | exact Nat.zero_le _) (B := by k_asm) (X := by k_asm) (T := by k_asm) (hk := by first | exact rfl | assumption) (hd := by first | assumption | ktr_room) (hu := by first | assumption | ktr_units | ktr_room) ?_); intro h5 tk5 F5 N5 x5))
  (k_with "call ref" => (k_here; k_dflt ((try dsimp only [List.nil_append, List.cons_append]); (with_reducible show wpAny _ _ (call (Value.ref 70) [Value.ref _, _]) _ _ _); refine' f_push1 (F := by k_asm) (N := by k_asm) (W := by assumption) (q1 := by (dsimp only; omega)) (hz := by first | assumption | exact Nat.zero_le _) (B := by k_asm) (X := by k_asm) (T := by k_asm) (hk := by first | exact rfl | assumption) (hd := by first | assumption | ktr_room) (hu := by first | assumption | ktr_units | ktr_room) ?_); intro h4 tk4 F4 N4 x4))
  (k_with "call ref" => (k_here; k_dflt ((try dsimp only [List.nil_append, List.cons_append]); (with_reducible show wpAny _ _ (call (Value.ref 63) [Value.ref _]) _ _ _); refine' g_tok1 (F := by k_asm) (N := by k_asm) (W := by first | assumption | (refine' RdAt.same (by assumption) (by rfl))) (q1 := by (dsimp only; omega)) (hz := by omega) (B := by k_asm) (X := by k_asm) (T := by k_asm) (hk := by first | exact rfl | assumption) (hd := by first | assumption | ktr_room) (hu := by first | assumption | ktr_units | ktr_room) ?_); intro ac6 t6 zz6 ln6 tl6 nz6 h6 tk6 lx6 le6 F6 N6 x6; have al6 : ac6.length ≤ 900 := (by omega); have sl6 : (⟨ac6.toArray⟩ : Str).length ≤ 1000 := (by simp [Str.length]; omega)))
  (k_with "call ref" => (k_here; (with_reducible show wpAny _ _ (call (Value.ref 177) _) _ _ _); k_dflt (refine' cl_use (c_number _ _ _ _ _ _ _ _ _) (B := by k_asm) (F := by k_asm) (X := by k_asm) (N := by k_asm) (T := by k_asm) (hk := by first | exact rfl | assumption) (hp := by assumption) (hd := by first | assumption | ktr_room) (hu := by first | assumption | ktr_units | ktr_room) ?_); intro t9 h9 tk9 F9 N9 X9; (try dsimp only)))
  (k_with "call ref" => (k_here; (with_reducible show wpAny _ _ (call (Value.ref 151) _) _ _ _); k_dflt (refine' cl_use (c_iseof _ _ _ _ _ _ _ _ _) (B := by k_asm) (F := by k_asm) (X := by k_asm) (N := by k_asm) (T := by k_asm) (hk := by first | exact rfl | assumption) trivial (hd := by first | assumption | ktr_room) (hu := by first | assumption | ktr_units | ktr_room) ?_); intro t9 h9 tk9 F9 N9 X9; (try dsimp only)))
  (k_with "exec For Name Name cons nil" => (k_here; k_dflt (refine' wpAny_For ?_ (hs := by exact fun _ => rfl))))
  (k_with "eval Name" => (k_here; (fail_if_success (with_reducible show wpAny _ _ (eval _ (compEnvC _ _ _ _)) _ _ _)); k_dflt (refine' nameX_L2 (hx := by rfl) (hk := by rfl) (hd := by rfl) (F := by k_asm) (hv := by (first | exact rfl | assumption | ((repeat refine (if_neg (by decide)).trans ?_); first | assumption | exact if_pos rfl))) ?_; k_whole)))
  (k_with "omega" => (first | k_extra "lt" | lia))
  trivial
inductive FallJ (w : World) (r8 r9 : Rd) (cc nl : Addr) (oc : Obj) (nn : Nat) (tail : List (Addr × Obj)) (x y : Str) (iv : List (Int × Tok)) (i : Nat) (m : Str → Option Value) (nx : List (Addr × Obj)) : Prop
  | mk (ph : List (List Nat × Tok)) (pv : List Value) (zs1 zs2 : List (Nat × Tok)) (ln1 ln2 : Int) (tl1 tl2 : Tok) (nz1 np1 nz2 : Nat) : (pv = wvals ph) → (nx = (r8.pr, listOf [].toArray 0) :: (r8.xr, instObj 73 r8.dr) :: (r8.dr, r8.lex w.params ln2 tl2) :: (r8.f, lamObj r8.cL r8.cc r8.pm r8.ctv) :: (r8.cc, r8.oc) :: (r8.ps, listOf #[] 0) :: (r8.xs, instObj 73 r8.ds) :: (r8.ds, r8.str w.params) :: (r8.l, listOf (valsOf zs2).reverse.toArray nz2) :: (r8.cL, r8.oC) :: (167, tabObj #[rawInt 187, rawInt 18, .ref cc]) :: (cc, oc) :: (r9.pr, listOf pv.toArray np1) :: (r9.xr, instObj 73 r9.dr) :: (r9.dr, r9.lex w.params ln1 tl1) :: (r9.f, lamObj r9.cL r9.cc r9.pm r9.ctv) :: (r9.cc, r9.oc) :: (r9.ps, listOf #[] 0) :: (r9.xs, instObj 73 r9.ds) :: (r9.ds, r9.str w.params) :: (r9.l, listOf (valsOf zs1).reverse.toArray nz1) :: (r9.cL, r9.oC) :: (nl, listOf (ivals iv).toArray nn) :: tail) → (ph.length ≤ 1) → ((∀ p ∈ ph, p.1.length ≤ 900)) → (zs1.length ≤ x.length) → (zs2.length ≤ y.length) → (m (Str.ofString "dealt") = some (.ref r9.xr)) → (m (Str.ofString "left") = some (.ref r8.xr)) → (fallsOf [] x.cps.toList y.cps.toList (iv.map Prod.fst) = fallsOf (ph.map Prod.fst) (zs1.map Prod.fst) (zs2.map Prod.fst) ((iv.map Prod.fst).drop i)) → FallJ w r8 r9 cc nl oc nn tail x y iv i m nx
set_option maxHeartbeats 4000000 in
theorem c_falls (w : World) (q : Program) (mean : ExcName → Option Value) (mg mb : Str → Option Value) (loose : List Str) (tail : List (Addr × Obj)) (x y : Str) (tx ty : Tok) (cc nl : Addr) (oc : Obj) (vs : Array Value) (tq : Tok) (iv : List (Int × Tok)) (nn : Nat) :
  ClG 9 rw_sn0078_01.row.prog w (K0 w.params) q loose mean mg mb 189 ((167, tabObj #[rawInt 187, rawInt 18, .ref cc]) :: (cc, oc) :: (nl, listOf (ivals iv).toArray nn) :: tail) [] (x.length ≤ 900 ∧ y.length ≤ 900 ∧ iv.length ≤ 900 ∧ TailOff 167 ((nl, listOf (ivals iv).toArray nn) :: tail) ∧ neN' cc 167 ∧ oc.data = .fields vs ∧ vs[1]? = some (.str (Str.ofString "_law_reader.<locals>.<lambda>") tq)) [.str x tx, .str y ty, .ref nl]
    (fun v news' => v = .bool (fallsOf [] x.cps.toList y.cps.toList (iv.map Prod.fst)) ∧ news' = (167, tabObj #[rawInt 187, rawInt 18, .ref cc]) :: (cc, oc) :: (nl, listOf (ivals iv).toArray nn) :: tail) := by
  k_fill
  dsimp only [ClG]; intros; rename_i hpre _ _ hret; obtain ⟨hx, hy, hi, hoff, hcx, hoc, hvs⟩ := hpre
  have hx' : x.length ≤ 1000 := by omega
  have hy' : y.length ≤ 1000 := by omega
  have hcp : x.cps.toList.length = x.length := by simp [Str.length]
  have hcq : y.cps.toList.length = y.length := by simp [Str.length]
  k_dflt cell_enter
  k_steps
  have hzl1 : zs9.length = x.length := by rw [← hcp, ← zx9, List.length_map]
  have hzl2 : zs8.length = y.length := by rw [← hcq, ← zx8, List.length_map]
  refine' forList (vs := ivals iv) (FallJ w r8 r9 cc nl oc nn tail x y iv) ?hh (by k_asm) (by k_asm) (by k_mem) ⟨[], [], zs9, zs8, _, _, _, _, _, _, _, rfl, rfl, by decide, ?p0, by omega, by omega, ?d0, ?l0, ?f0⟩ ?adr ?jd ?turn ?done ?ht
  case hh => exact rfl
  case ht => exact fun _ _ => rfl
  case p0 => intro p hp; cases hp
  case d0 => rfl
  case l0 => rfl
  case f0 => rw [zx9, zx8]; rfl
  case adr =>
    rintro i m nx ⟨ph, pv, zs1, zs2, ln1, ln2, tl1, tl2, nz1, np1, nz2, epv, rfl, _⟩ p hp
    have hp' := List.mem_map_of_mem (f := Prod.fst) hp
    exact List.mem_map.mp hp'
  case jd =>
    rintro i m nx ⟨ph, pv, zs1, zs2, ln1, ln2, tl1, tl2, nz1, np1, nz2, epv, rfl, _⟩
    k_mem
  case turn =>
    rintro i v m₂ nx hh gs tkk I o' hv ⟨ph, pv, zs1, zs2, ln1, ln2, tl1, tl2, nz1, np1, nz2, epv, rfl, hph, hpl, hz1, hz2, hm1, hm2, hf⟩ hI F' N' Q' hQ E₁ E₂
    k_lt hI
    obtain ⟨pn, hpn, rfl⟩ := ivals_at hv
    have hdr : (iv.map Prod.fst).drop i = pn.1 :: (iv.map Prod.fst).drop (i + 1) := drop_at (by rw [List.getElem?_map, hpn]; rfl)
    rw [hdr] at hf
    rcases ph with _ | ⟨pw, _ | ⟨_, _⟩⟩
    · have epv' : pv = [] := epv
      subst epv'
      refine wpAny_assign_Name ?_
      k_steps
      · refine hQ.ret _ _ ?_
        (try dsimp only)
        k_steps
        (refine' hret _ _ _ _ _ ⟨congrArg Value.bool ?e, rfl⟩ (by k_asm) ?nn ?ext; (case e => exact (hf.trans (falls_no0 lx5 (by assumption) lx6 (by assumption))).symm); (case nn => exact news_sub (by assumption) (by first | ((repeat' (first | exact sub_self _ | with_reducible refine sub_cons ?_ | refine sub_cons ?_ | refine sub_skip ?_)); done) | (simp only [List.forall_mem_cons]; exact ⟨by k_mem, by k_mem, by k_mem, fun p hp => by repeat (first | assumption | refine List.mem_cons_of_mem _ ?_)⟩))); (case ext => exact clm_ext (by assumption) (by assumption) (by assumption) (by assumption) (by first | (refine sub_or ?_; (repeat' (first | exact sub_self _ | with_reducible refine sub_cons ?_ | refine sub_cons ?_ | refine sub_skip ?_)); done) | (simp only [List.forall_mem_cons]; exact ⟨.inr (by k_mem), .inr (by k_mem), .inr (by k_mem), fun p hp => .inr (by repeat (first | assumption | refine List.mem_cons_of_mem _ ?_))⟩))))
      · refine' hQ.next _ _ _ _ _ (by assumption) N9 ⟨[(ac5, t5)], _, zz5, zz6, _, _, _, _, _, _, _, rfl, rfl, (by simp), ?a1, ?a2, ?a3, ?a4, ?a5, ?a6⟩
        case a1 => intro p hp; rw [List.mem_singleton.mp hp]; exact al5
        case a2 => omega
        case a3 => omega
        case a4 => exact (if_neg (by decide)).trans ((if_neg (by decide)).trans hm1)
        case a5 => exact (if_neg (by decide)).trans ((if_neg (by decide)).trans hm2)
        case a6 => exact hf.trans (falls_left0 lx5 (by assumption) lx6 (by assumption))
      · refine' hQ.next _ _ _ _ _ (by assumption) N9 ⟨[], _, zz5, zs2, _, _, _, _, _, _, _, rfl, rfl, (by simp), ?a1, ?a2, ?a3, ?a4, ?a5, ?a6⟩
        case a1 => intro p hp; cases hp
        case a2 => omega
        case a3 => omega
        case a4 => exact (if_neg (by decide)).trans ((if_neg (by decide)).trans hm1)
        case a5 => exact (if_neg (by decide)).trans ((if_neg (by decide)).trans hm2)
        case a6 => exact hf.trans (falls_hit0 lx5 (by assumption))
    · have epv' : pv = .str ⟨pw.1.toArray⟩ pw.2 :: [] := epv
      subst epv'
      have hpw : (⟨pw.1.toArray⟩ : Str).length ≤ 1000 := by
        have := hpl pw (.head _)
        simp [Str.length]; omega
      refine wpAny_assign_Name ?_
      k_steps
      · refine hQ.ret _ _ ?_
        (try dsimp only)
        k_steps
        (refine' hret _ _ _ _ _ ⟨congrArg Value.bool ?e, rfl⟩ (by k_asm) ?nn ?ext; (case e => exact (hf.trans (falls_no1 (by assumption) lx6 (by assumption))).symm); (case nn => exact news_sub (by assumption) (by first | ((repeat' (first | exact sub_self _ | with_reducible refine sub_cons ?_ | refine sub_cons ?_ | refine sub_skip ?_)); done) | (simp only [List.forall_mem_cons]; exact ⟨by k_mem, by k_mem, by k_mem, fun p hp => by repeat (first | assumption | refine List.mem_cons_of_mem _ ?_)⟩))); (case ext => exact clm_ext (by assumption) (by assumption) (by assumption) (by assumption) (by first | (refine sub_or ?_; (repeat' (first | exact sub_self _ | with_reducible refine sub_cons ?_ | refine sub_cons ?_ | refine sub_skip ?_)); done) | (simp only [List.forall_mem_cons]; exact ⟨.inr (by k_mem), .inr (by k_mem), .inr (by k_mem), fun p hp => .inr (by repeat (first | assumption | refine List.mem_cons_of_mem _ ?_))⟩))))
      · refine' hQ.next _ _ _ _ _ (by assumption) N9 ⟨[pw], _, zs1, zz6, _, _, _, _, _, _, _, rfl, rfl, (by simp), ?a1, ?a2, ?a3, ?a4, ?a5, ?a6⟩
        case a1 => intro p hp; rw [List.mem_singleton.mp hp]; exact hpl pw (.head _)
        case a2 => omega
        case a3 => omega
        case a4 => exact (if_neg (by decide)).trans ((if_neg (by decide)).trans hm1)
        case a5 => exact (if_neg (by decide)).trans ((if_neg (by decide)).trans hm2)
        case a6 => exact hf.trans (falls_left1 (by assumption) lx6 (by assumption))
      · refine' hQ.next _ _ _ _ _ (by assumption) N9 ⟨[], _, zs1, zs2, _, _, _, _, _, _, _, rfl, rfl, (by simp), ?a1, ?a2, ?a3, ?a4, ?a5, ?a6⟩
        case a1 => intro p hp; cases hp
        case a2 => omega
        case a3 => omega
        case a4 => exact (if_neg (by decide)).trans ((if_neg (by decide)).trans hm1)
        case a5 => exact (if_neg (by decide)).trans ((if_neg (by decide)).trans hm2)
        case a6 => exact hf.trans (falls_hit1 (by assumption))
    · simp at hph
  case done =>
    rintro m₂ nx hh gs tkk ⟨ph, pv, zs1, zs2, ln1, ln2, tl1, tl2, nz1, np1, nz2, epv, rfl, hph, hpl, hz1, hz2, hm1, hm2, hf⟩ F' N'
    rw [ivals_len, ← List.length_map (f := Prod.fst) (as := iv), List.drop_length] at hf
    rcases ph with _ | ⟨pw, _ | ⟨_, _⟩⟩
    · have epv' : pv = [] := epv
      subst epv'
      dsimp only
      k_steps
      · (refine' hret _ _ _ _ _ ⟨congrArg Value.bool ?e, rfl⟩ (by k_asm) ?nn ?ext; (case e => exact (hf.trans (falls_end0 lx5 (by assumption) lx6)).symm); (case nn => exact news_sub (by assumption) (by first | ((repeat' (first | exact sub_self _ | with_reducible refine sub_cons ?_ | refine sub_cons ?_ | refine sub_skip ?_)); done) | (simp only [List.forall_mem_cons]; exact ⟨by k_mem, by k_mem, by k_mem, fun p hp => by repeat (first | assumption | refine List.mem_cons_of_mem _ ?_)⟩))); (case ext => exact clm_ext (by assumption) (by assumption) (by assumption) (by assumption) (by first | (refine sub_or ?_; (repeat' (first | exact sub_self _ | with_reducible refine sub_cons ?_ | refine sub_cons ?_ | refine sub_skip ?_)); done) | (simp only [List.forall_mem_cons]; exact ⟨.inr (by k_mem), .inr (by k_mem), .inr (by k_mem), fun p hp => .inr (by repeat (first | assumption | refine List.mem_cons_of_mem _ ?_))⟩))))
      · (refine' hret _ _ _ _ _ ⟨congrArg Value.bool ?e, rfl⟩ (by k_asm) ?nn ?ext; (case e => exact (hf.trans (falls_end0' lx5 (by assumption))).symm); (case nn => exact news_sub (by assumption) (by first | ((repeat' (first | exact sub_self _ | with_reducible refine sub_cons ?_ | refine sub_cons ?_ | refine sub_skip ?_)); done) | (simp only [List.forall_mem_cons]; exact ⟨by k_mem, by k_mem, by k_mem, fun p hp => by repeat (first | assumption | refine List.mem_cons_of_mem _ ?_)⟩))); (case ext => exact clm_ext (by assumption) (by assumption) (by assumption) (by assumption) (by first | (refine sub_or ?_; (repeat' (first | exact sub_self _ | with_reducible refine sub_cons ?_ | refine sub_cons ?_ | refine sub_skip ?_)); done) | (simp only [List.forall_mem_cons]; exact ⟨.inr (by k_mem), .inr (by k_mem), .inr (by k_mem), fun p hp => .inr (by repeat (first | assumption | refine List.mem_cons_of_mem _ ?_))⟩))))
    · have epv' : pv = .str ⟨pw.1.toArray⟩ pw.2 :: [] := epv
      subst epv'
      have hpw : (⟨pw.1.toArray⟩ : Str).length ≤ 1000 := by
        have := hpl pw (.head _)
        simp [Str.length]; omega
      dsimp only
      k_steps
      · (refine' hret _ _ _ _ _ ⟨congrArg Value.bool ?e, rfl⟩ (by k_asm) ?nn ?ext; (case e => exact (hf.trans (falls_end1 (by assumption) lx6)).symm); (case nn => exact news_sub (by assumption) (by first | ((repeat' (first | exact sub_self _ | with_reducible refine sub_cons ?_ | refine sub_cons ?_ | refine sub_skip ?_)); done) | (simp only [List.forall_mem_cons]; exact ⟨by k_mem, by k_mem, by k_mem, fun p hp => by repeat (first | assumption | refine List.mem_cons_of_mem _ ?_)⟩))); (case ext => exact clm_ext (by assumption) (by assumption) (by assumption) (by assumption) (by first | (refine sub_or ?_; (repeat' (first | exact sub_self _ | with_reducible refine sub_cons ?_ | refine sub_cons ?_ | refine sub_skip ?_)); done) | (simp only [List.forall_mem_cons]; exact ⟨.inr (by k_mem), .inr (by k_mem), .inr (by k_mem), fun p hp => .inr (by repeat (first | assumption | refine List.mem_cons_of_mem _ ?_))⟩))))
      · (refine' hret _ _ _ _ _ ⟨congrArg Value.bool ?e, rfl⟩ (by k_asm) ?nn ?ext; (case e => exact (hf.trans (falls_end1' (by assumption))).symm); (case nn => exact news_sub (by assumption) (by first | ((repeat' (first | exact sub_self _ | with_reducible refine sub_cons ?_ | refine sub_cons ?_ | refine sub_skip ?_)); done) | (simp only [List.forall_mem_cons]; exact ⟨by k_mem, by k_mem, by k_mem, fun p hp => by repeat (first | assumption | refine List.mem_cons_of_mem _ ?_)⟩))); (case ext => exact clm_ext (by assumption) (by assumption) (by assumption) (by assumption) (by first | (refine sub_or ?_; (repeat' (first | exact sub_self _ | with_reducible refine sub_cons ?_ | refine sub_cons ?_ | refine sub_skip ?_)); done) | (simp only [List.forall_mem_cons]; exact ⟨.inr (by k_mem), .inr (by k_mem), .inr (by k_mem), fun p hp => .inr (by repeat (first | assumption | refine List.mem_cons_of_mem _ ?_))⟩))))
    · simp at hph
theorem rz_Crd : True := by k_with_none; trivial
local macro_rules | `(tactic| omega) => `(tactic| omega (config := {}))
noncomputable def intsB : List Value → List Int → Bool
  | [], [] => true
  | .int i _ :: vs, n :: ns => decide (i = n) && intsB vs ns
  | _, _ => false
theorem ints_check : ∀ {vs : List Value} {ns : List Int}, intsB vs ns = true → IntsAre vs ns
  | [], [], _ => .nil
  | .int i t :: vs, n :: ns, h => by
    simp only [intsB, Bool.and_eq_true, decide_eq_true_eq] at h
    obtain ⟨rfl, h⟩ := h
    exact .cons _ _ (ints_check h)
  | .int _ _ :: _, [], h => by simp [intsB] at h
  | [], _ :: _, h => by simp [intsB] at h
  | .none :: _, _, h => by cases ‹List Int› <;> simp [intsB] at h
  | .bool _ :: _, _, h => by cases ‹List Int› <;> simp [intsB] at h
  | .str _ _ :: _, _, h => by cases ‹List Int› <;> simp [intsB] at h
  | .ref _ :: _, _, h => by cases ‹List Int› <;> simp [intsB] at h
noncomputable def defBody (i : Nat) : List Stmt := match pw_sn0078_01.main.body[i]? with
  | some (.FunctionDef _ _ b _ _ _ _ _ _ _) => b
  | _ => []
noncomputable def scAt (i : Nat) : Option Scope := match pw_sn0078_01.main.body[i]? with
  | some (.FunctionDef _ _ _ _ _ _ sc _ _ _) => some sc
  | _ => none
noncomputable def asgAt (i j : Nat) : Option PySem.Expr := match (defBody i)[j]? with
  | some (.Assign _ e _) => some e
  | _ => none
noncomputable def intOf : PySem.Expr → Option Int
  | .Constant (.int i) _ _ => some i
  | _ => none
noncomputable def intsE : Option PySem.Expr → List Int
  | some (.List es _) => es.filterMap intOf
  | _ => []
noncomputable def unseenL : List Int := match asgAt 65 0 with
  | some (.BinOp a _ (.Call _ [.Call _ [x, y] _ _] _ _) _) => intsE (some a) ++ rangeKs ((intOf x).getD 0) (((intOf y).getD 0) - ((intOf x).getD 0)).toNat
  | _ => []
noncomputable def signStr : Str := match asgAt 65 1 with
  | some (.Call (.Attribute (.Constant (.str s) _ _) _ _) _ _ _) => s
  | _ => Str.ofString ""
noncomputable def signsL : List (List Nat) := (Txt.split signStr (Str.ofString " ")).map fun s => s.cps.toList
noncomputable def startsL : List Int := intsE (asgAt 65 2)
noncomputable def signOf (n x : Int) : List Nat := if n < 256 then signsL.getD (n - 208).toNat [] else [(startsL.getD (x.fmod 12).toNat 0 + n - 256).toNat]
noncomputable def placeOf (n x : Int) : Nat := ((x.fdiv 12).fmod (((signOf n x).length : Int) + 1)).toNat
noncomputable def wordOf (n x : Int) : List Nat := (signOf n x).take (placeOf n x) ++ [(unseenL.getD (x.fmod 27).toNat 0).toNat] ++ (signOf n x).drop (placeOf n x)
noncomputable def slashed (y : Int) : Nat → List Nat → List Nat
  | _, [] => []
  | k, c :: cs => (if (y + (k : Int)).fmod 3 = 0 then [92, c] else [c]) ++ slashed y (k + 1) cs
noncomputable def wsL : List Nat := [32, 10, 9, 13]
noncomputable def cardOf (n x y : Int) : List Nat :=
  (if y.fmod 2 = 1 then [34] ++ slashed y 0 (wordOf n x) ++ [34] else slashed y 0 (wordOf n x)) ++ [wsL.getD ((y.fdiv 2).fmod 4).toNat 0]
theorem signs_len : signsL.length = 48 := by decide +kernel
theorem signs_bd : ∀ l ∈ signsL, 1 ≤ l.length ∧ l.length ≤ 3 := by decide +kernel
theorem starts_bd : ∀ v ∈ startsL, 0 ≤ v ∧ v ≤ 130000 := by decide +kernel
theorem starts_len : startsL.length = 12 := by decide +kernel
theorem unseen_len : unseenL.length = 27 := by decide +kernel
theorem unseen_bd : ∀ v ∈ unseenL, 0 ≤ v ∧ v ≤ 130000 := by decide +kernel
theorem getD_mem {α : Type} {l : List α} {i : Nat} {d : α} (h : i < l.length) : l.getD i d ∈ l := by
  rw [List.getD_eq_getElem?_getD, List.getElem?_eq_getElem h]; exact List.getElem_mem h
theorem fmod_lt (x : Int) {k : Int} (hk : 0 < k) : 0 ≤ x.fmod k ∧ x.fmod k < k := ⟨Int.fmod_nonneg_of_pos x hk, Int.fmod_lt_of_pos x hk⟩
theorem signOf_bd {n : Int} (h0 : 208 ≤ n) (x : Int) : 1 ≤ (signOf n x).length ∧ (signOf n x).length ≤ 3 := by
  unfold signOf
  split
  · exact signs_bd _ (getD_mem (by rw [signs_len]; omega))
  · simp
theorem slashed_snoc (y : Int) (c : Nat) : ∀ (l : List Nat) (k : Nat), slashed y k (l ++ [c]) = slashed y k l ++ (if (y + ((k + l.length : Nat) : Int)).fmod 3 = 0 then [92, c] else [c])
  | [], k => by simp [slashed]
  | a :: l, k => by
    simp only [List.cons_append, slashed, slashed_snoc y c l (k + 1), List.append_assoc, List.length_cons]
    rw [show k + 1 + l.length = k + (l.length + 1) from by omega]
theorem slashed_len (y : Int) : ∀ (l : List Nat) (k : Nat), (slashed y k l).length ≤ 2 * l.length
  | [], k => by simp [slashed]
  | a :: l, k => by
    have := slashed_len y l (k + 1)
    simp only [slashed, List.length_append, List.length_cons]
    split <;> simp <;> omega
theorem slashed_take (y : Int) {l : List Nat} {i : Nat} (h : i < l.length) : slashed y 0 (l.take (i + 1)) = slashed y 0 (l.take i) ++ (if (y + (i : Int)).fmod 3 = 0 then [92, l.getD i 0] else [l.getD i 0]) := by
  have e : l.take (i + 1) = l.take i ++ [l.getD i 0] := by
    rw [List.take_add_one, List.getElem?_eq_getElem h]; simp [List.getD, h]
  have e2 : 0 + (l.take i).length = i := by rw [List.length_take]; omega
  rw [e, slashed_snoc, e2]
theorem l_len (l : List Nat) : (⟨l.toArray⟩ : Str).length = l.length := by simp [Str.length]
theorem bs_l : Str.ofString "\\" = ⟨[92].toArray⟩ := by decide +kernel
theorem qt_l : Str.ofString "\"" = ⟨[34].toArray⟩ := by decide +kernel
theorem em_l : Str.ofString "" = ⟨([] : List Nat).toArray⟩ := by decide +kernel
theorem ws_l : Str.ofString " \n\t\r" = ⟨[32, 10, 9, 13].toArray⟩ := by decide +kernel
theorem str_self (X : Str) : X = ⟨X.cps.toList.toArray⟩ := by simp
section
variable {prog : Program} {w : World} {A : Around} {E : Value → Shared → Prop} {s : Shared} {h₀ : Heap} {L : Addr} {m : Str → Option Value} {news : List (Addr × Obj)} {Q : Value → Shared → Prop} {value slice : PySem.Expr} {l a b : List Nat} {t u : Tok} {X Y : Str}
theorem len_l (hz : l.length ≤ 100000) (h : ∀ u tk, Q (.int (l.length : Int) u) { s with toks := tk }) :
    wpAny (model prog w) A (call (.builtin "len") [.str ⟨l.toArray⟩ t]) Q E s := by
  refine P.len_str (by rw [l_len]; omega) ?_
  rw [l_len]
  exact h _ _
theorem add_l (hX : X = ⟨a.toArray⟩) (hY : Y = ⟨b.toArray⟩) (hz : a.length + b.length ≤ 100000) (h : ∀ t' tk, Q (.str ⟨(a ++ b).toArray⟩ t') { s with toks := tk }) :
    wpAny (model prog w) A (binaryOp .Add (.str X t) (.str Y u)) Q E s := by
  subst hX hY
  refine PyProof.Rows.add_str (fun t' tk => ?_) ?_
  · rw [str_app]; exact h t' tk
  · rw [sizeLine_eq, l_len, l_len]; omega
theorem iadd_l (hX : X = ⟨a.toArray⟩) (hY : Y = ⟨b.toArray⟩) (hz : a.length + b.length ≤ 100000) (h : ∀ t' tk, Q (.str ⟨(a ++ b).toArray⟩ t') { s with toks := tk }) :
    wpAny (model prog w) A (inplaceOp .Add (.str X t) (.str Y u)) Q E s := by
  subst hX hY
  refine PyProof.Rows.iadd_str (fun t' tk => ?_) ?_
  · rw [str_app]; exact h t' tk
  · rw [sizeLine_eq, l_len, l_len]; omega
theorem item_l {k : Int} (hX : X = ⟨l.toArray⟩) (h0 : 0 ≤ k) (h1 : k < l.length) (hz : l.length ≤ 100000) (h : ∀ t', Q (.str ⟨[l.getD k.toNat 0].toArray⟩ t') { s with toks := s.toks + 1 })
    (hs : subscripted slice false (.str X t) (.int k u) = operate [.int k u, .str X t] (getItem (.str X t) (.int k u)) ∨ subscripted slice false (.str X t) (.int k u) = operate [.str X t, .int k u] (getItem (.str X t) (.int k u))) :
    wpAny (model prog w) A (subscriptTail value slice (.str X t) (.int k u)) Q E s := by
  subst hX
  have hg : wpAny (model prog w) A (getItem (.str ⟨l.toArray⟩ t) (.int k u)) Q E s := by
    refine P.getItem_str (c := l.getD k.toNat 0) (by simp; omega) ?_ (h _)
    have e : seqIndex? k (⟨l.toArray⟩ : Str).length = some k.toNat := by
      rw [l_len]; unfold seqIndex?
      have e0 : (if k < 0 then k + (l.length : Int) else k) = k := if_neg (by omega)
      simp only [e0]
      rw [if_pos (by simp; omega)]
    rw [e]
    have hk : k.toNat < l.length := by omega
    simp [List.getD, hk]
  rcases hs with hs | hs
  · exact tail_any (typeIs_str s _ t) F.slot_str_getitem.lookup hg hs
  · exact tail_any (typeIs_str s _ t) F.slot_str_getitem.lookup hg hs
theorem slice_to {j : Int} (h0 : 0 ≤ j) (h1 : j ≤ l.length) : Txt.slice ⟨l.toArray⟩ none (some j) = ⟨(l.take j.toNat).toArray⟩ := by
  show StrLaws.sliceText _ none (some j) = _
  rw [StrLaws.sliceText_to ⟨h0, by simpa using h1⟩]; simp
theorem slice_from {j : Int} (h0 : 0 ≤ j) (h1 : j ≤ l.length) : Txt.slice ⟨l.toArray⟩ (some j) none = ⟨(l.drop j.toNat).toArray⟩ := by
  show StrLaws.sliceText _ (some j) none = _
  rw [StrLaws.sliceText_from ⟨h0, by simpa using h1⟩]
  congr 2
  obtain ⟨n, rfl⟩ := Int.eq_ofNat_of_zero_le h0
  exact List.take_of_length_le (by rw [List.length_drop, Int.toNat_sub]; exact Nat.le_refl _)
theorem sliceTo_l {j : Int} {uj : Tok} (F : Fr h₀ L s.heap m) (N : News h₀ L s.heap news) (h0 : 0 ≤ j) (h1 : j ≤ l.length) (hz : l.length ≤ 100000) (h : ∀ h' t' k, Fr h₀ L h' m → News h₀ L h' news → Q (.str ⟨(l.take j.toNat).toArray⟩ t') { s with heap := h', toks := k })
    (hs : subscripted slice false (.str ⟨l.toArray⟩ t) (.ref s.heap.objs.size) = operate [.ref s.heap.objs.size, .str ⟨l.toArray⟩ t] (getItem (.str ⟨l.toArray⟩ t) (.ref s.heap.objs.size)) := by with_unfolding_all rfl)
    (ht : ∀ r, letTemporaryGo value (.str ⟨l.toArray⟩ t) r = pure () := by intro _; with_unfolding_all rfl) :
    wpAny (model prog w) A (subscriptTail value slice (.str ⟨l.toArray⟩ t) (.ref s.heap.objs.size)) Q E { s with heap := s.heap.push { cls := .type "slice", data := .fields #[.none, .int j uj, .none] } } :=
  slice_strN_ns_len F N (fun h' t' k a b _ => by rw [slice_to h0 h1]; exact h h' t' k a b) hs ht (by rw [l_len, sizeLine_eq]; omega)
theorem sliceFrom_l {j : Int} {uj : Tok} (F : Fr h₀ L s.heap m) (N : News h₀ L s.heap news) (h0 : 0 ≤ j) (h1 : j ≤ l.length) (hz : l.length ≤ 100000) (h : ∀ h' t' k, Fr h₀ L h' m → News h₀ L h' news → Q (.str ⟨(l.drop j.toNat).toArray⟩ t') { s with heap := h', toks := k })
    (hs : subscripted slice false (.str ⟨l.toArray⟩ t) (.ref s.heap.objs.size) = operate [.ref s.heap.objs.size, .str ⟨l.toArray⟩ t] (getItem (.str ⟨l.toArray⟩ t) (.ref s.heap.objs.size)) := by with_unfolding_all rfl)
    (ht : ∀ r, letTemporaryGo value (.str ⟨l.toArray⟩ t) r = pure () := by intro _; with_unfolding_all rfl) :
    wpAny (model prog w) A (subscriptTail value slice (.str ⟨l.toArray⟩ t) (.ref s.heap.objs.size)) Q E { s with heap := s.heap.push { cls := .type "slice", data := .fields #[.int j uj, .none, .none] } } :=
  slice_strN_sn_len F N (fun h' t' k a b _ => by rw [slice_from h0 h1]; exact h h' t' k a b) hs ht (by rw [l_len, sizeLine_eq]; omega)
end
theorem item_ws {k : Int} (h0 : 0 ≤ k) (h1 : k < 4) : Txt.item (Str.ofString " \n\t\r") k = ⟨[([32, 10, 9, 13] : List Nat).getD k.toNat 0].toArray⟩ := by
  obtain ⟨n, rfl⟩ := Int.eq_ofNat_of_zero_le h0
  exact (by decide +kernel : ∀ n : Nat, n < 4 → Txt.item (Str.ofString " \n\t\r") (n : Int) = ⟨[([32, 10, 9, 13] : List Nat).getD (n : Int).toNat 0].toArray⟩) n (Int.ofNat_lt.mp h1)
local macro_rules | `(tactic| omega) => `(tactic| k_extra "omega")
theorem rg_ConK0_1 : True := by
  k_with_none
  (k_with "my_cell_enter" => (refine' code_defG (B := by k_asm) (F := by k_asm) (by k_asm) (N := by k_asm) (T := by k_asm) (hA := by exact rfl) (hf := by exact rfl) (hke := by assumption) (ho := by k_is) (hcd := by k_is) (hroom := by ktr_room) (hbind := by exact BindsTo.of_eq rfl) (hloc := by exact locs rfl) ?_ (hco := by exact rfl) (hgen := by exact rfl) (hk := by exact rfl) (hcell := by decide); k_whole; intro g' L' h' FG' F' N' B' X' T' GS'; (try dsimp only); (try k_lift B'); (try k_fold)))
  (k_with "eval Constant int" => (refine constI ?_))
  (k_with "eval Constant str" => (refine constS ?_))
  (k_with "eval Call" => ((show let Q9 := _; wpAny _ _ _ Q9 _ _); intro Q9; refine Call_ ?_))
  (k_with "eval Call Attribute" => ((show let Q9 := _; wpAny _ _ _ Q9 _ _); intro Q9; refine MethodCall_ ?_))
  (k_with "exec If" => ((show let Q9 := _; wpAny _ _ _ Q9 _ _); intro Q9; refine wpAny_If ?_))
  (k_with "exec Assign" => ((show let Q9 := _; wpAny _ _ _ Q9 _ _); intro Q9; refine wpAny_Assign_Name ?_))
  (k_with "exec AugAssign" => ((show let Q9 := _; wpAny _ _ _ Q9 _ _); intro Q9; refine wpAny_AugAssign_Name ?_))
  (k_with "eval BinOp" => ((show let Q9 := _; wpAny _ _ _ Q9 _ _); intro Q9; refine wpAny_BinOp ?_))
  (k_with "eval Compare" => ((show let Q9 := _; wpAny _ _ _ Q9 _ _); intro Q9; refine wpAny_Compare1 ?_))
  (k_with "isTrue Compare" => ((show let Q9 := _; wpAny _ _ _ Q9 _ _); intro Q9; refine wpAny_isTrue_Compare1 ?_))
  (k_with "eval Subscript" => ((show let Q9 := _; wpAny _ _ _ Q9 _ _); intro Q9; refine Subscript_ ?_))
  (k_with "my_k_all" => (exact TailOff.ne (by assumption)))
  (k_with "my_k_all" => (exact allLt_ne (by assumption)))
  (k_with "a" => (with_reducible assumption))
  (k_with "cn" => (first | k_extra "a" | (apply And.right; first | k_extra "a" | (apply And.right; first | k_extra "a" | (apply And.right; first | k_extra "a" | (apply And.right; first | k_extra "a" | (apply And.right; first | k_extra "a" | (apply And.right; first | k_extra "a" | (apply And.right; first | k_extra "a" | (apply And.right; first | k_extra "a" | (apply And.right; first | k_extra "a" | (apply And.right; first | k_extra "a" | (apply And.right; first | k_extra "a" | (apply And.right; first | k_extra "a" | (apply And.right; k_extra "a")))))))))))))))
  (k_with "cj" => (first | k_extra "cn" | (apply And.left; k_extra "cn")))
  (k_with "lt" => ((first | (with_reducible show @LT.lt Nat _ _ _) | (with_reducible show @LE.le Nat _ _ _)); first | k_extra "cj" | (with_reducible refine Nat.lt_of_succ_lt ?_; k_extra "cj") | (with_reducible refine Nat.le_of_lt ?_; first | k_extra "cj" | (refine Nat.lt_of_succ_lt ?_; k_extra "cj")) | (with_reducible refine Nat.lt_trans ?_ (by with_reducible assumption); k_extra "lt")))
  (k_with "lt0" => (first | with_reducible exact Nat.lt_succ_self _ | with_reducible assumption | (with_reducible refine Nat.lt_succ_of_lt ?_; k_extra "lt0")))
  (k_with "my_k_ne" => (refine neN ?_; (try dsimp only); first | (refine Nat.ne_of_lt ?_; k_extra "lt0") | (refine Nat.ne_of_gt ?_; k_extra "lt0") | (refine Nat.ne_of_lt ?_; k_extra "lt") | (refine Nat.ne_of_gt ?_; k_extra "lt")))
  (k_with "omega" => (first | k_extra "lt"))
  (k_with "i746731" => (intro D' us' c' h' tk' F' N' l1 i1; (try k_lt l1); revert D' us' c' h' tk' F' N' l1 i1; intros))
  trivial
theorem card_sign {n x k : Int} {l : List (Str × Tok)} {lit : Str} {nD : Nat} {prog : Program} {w : World} {A : Around} {E : Value → Shared → Prop} {s : Shared} {h₀ : Heap} {L D : Addr} {news : List (Addr × Obj)} {u : Tok} {value slice : PySem.Expr} {Q : Value → Shared → Prop}
    (N : News h₀ L s.heap news) (hm : (D, listOf (strValues l).toArray nD) ∈ news) (e : l.map (fun x => x.1) = Txt.split lit (Str.ofString " ")) (hl : lit = signStr) (h0 : 208 ≤ n) (hn : n < 256) (hk : k = n - 208) (h : ∀ l t, l = signOf n x → 1 ≤ l.length → l.length ≤ 3 → Q (.str ⟨l.toArray⟩ t) s)
    (hs : subscripted slice false (.ref D) (.int k u) = operate [.ref D, .int k u] (getItem (.ref D) (.int k u)) := by with_unfolding_all rfl) :
    wpAny (model prog w) A (subscriptTail value slice (.ref D) (.int k u)) Q E s := by
  subst hl hk
  have hlen : l.length = 48 := by
    have := congrArg List.length e
    rw [List.length_map] at this
    rw [this, ← signs_len]; unfold signsL; rw [List.length_map]
  have hL : s.heap.IsList D (strValues l).toArray := ⟨_, (N _ hm).1, rfl, nD, rfl⟩
  have hi : (n - 208).toNat < l.length := by omega
  have e1 : (l[(n - 208).toNat]).1 = ⟨(signOf n x).toArray⟩ := by
    unfold signOf signsL
    rw [if_pos hn, ← e]
    simp [List.getD, hi]
  refine tail_any hL.typeIs slot_list_getitem.lookup (wpAny_getItem_list hL (by omega) (by omega) (x := .str (l[(n - 208).toNat]).1 (l[(n - 208).toNat]).2) ?_ ?_) hs
  · unfold strValues; simp [hi]
  · rw [e1]
    exact h _ _ rfl (signOf_bd h0 x).1 (signOf_bd h0 x).2
theorem card_chr {n x i : Int} {lit : List Int} {t : Tok} {prog : Program} {w : World} {A : Around} {E : Value → Shared → Prop} {s : Shared} {Q : Value → Shared → Prop}
    (hi : i = lit.getD (x.fmod 12).toNat 0 + n - 256) (hl : lit = startsL) (h0 : ¬ n < 256) (hn : n ≤ 268) (h : ∀ l t, l = signOf n x → 1 ≤ l.length → l.length ≤ 3 → Q (.str ⟨l.toArray⟩ t) { s with toks := s.toks + 1 }) :
    wpAny (model prog w) A (call (.builtin "chr") [.int i t]) Q E s := by
  subst hl hi
  have hb : 0 ≤ startsL.getD (x.fmod 12).toNat 0 ∧ startsL.getD (x.fmod 12).toNat 0 ≤ 130000 := starts_bd _ (getD_mem (by
    have := fmod_lt x (k := 12) (by decide)
    rw [starts_len]; omega))
  refine chr_of_range (by omega) (by omega) (h [_] _ ?_ (by simp) (by simp))
  unfold signOf
  rw [if_neg h0]
theorem card_unseen {x i : Int} {lit : List Int} {t : Tok} {prog : Program} {w : World} {A : Around} {E : Value → Shared → Prop} {s : Shared} {Q : Value → Shared → Prop}
    (hi : i = lit.getD (x.fmod 27).toNat 0) (hl : lit = unseenL) (h : ∀ t, Q (.str ⟨[(unseenL.getD (x.fmod 27).toNat 0).toNat].toArray⟩ t) { s with toks := s.toks + 1 }) :
    wpAny (model prog w) A (call (.builtin "chr") [.int i t]) Q E s := by
  subst hl hi
  have hb : 0 ≤ unseenL.getD (x.fmod 27).toNat 0 ∧ unseenL.getD (x.fmod 27).toNat 0 ≤ 130000 := unseen_bd _ (getD_mem (by
    have := fmod_lt x (k := 27) (by decide)
    rw [unseen_len]; omega))
  exact chr_of_range (by omega) (by omega) (h _)
theorem rg_ConK0_3 : True := by
  (k_with "call builtin:len" => (k_here; (with_reducible show wpAny _ _ (call (Value.builtin "len") [Value.str _ _]) _ _ _); k_dflt (refine' len_l (hz := by (first | assumption | omega | (simp only [List.length_append, List.length_cons, List.length_nil, List.length_take, List.length_drop]; omega))) ?_); intro _ _))
  (k_with "binaryOp Add str str" => (k_here; (with_reducible show wpAny _ _ (binaryOp _ (Value.str _ _) (Value.str _ _)) _ _ _); k_dflt (refine' add_l (hX := by first | with_reducible rfl | exact bs_l | exact qt_l | exact em_l | exact ws_l | exact str_self _) (hY := by first | with_reducible rfl | exact bs_l | exact qt_l | exact em_l | exact ws_l | exact str_self _) (hz := by (first | assumption | omega | (simp only [List.length_append, List.length_cons, List.length_nil, List.length_take, List.length_drop]; omega))) ?_); intro _ _))
  (k_with "inplaceOp Add str str" => (k_here; (with_reducible show wpAny _ _ (inplaceOp _ (Value.str _ _) (Value.str _ _)) _ _ _); k_dflt (refine' iadd_l (hX := by first | with_reducible rfl | exact bs_l | exact qt_l | exact em_l | exact ws_l | exact str_self _) (hY := by first | with_reducible rfl | exact bs_l | exact qt_l | exact em_l | exact ws_l | exact str_self _) (hz := by (first | assumption | omega | (simp only [List.length_append, List.length_cons, List.length_nil, List.length_take, List.length_drop]; omega))) ?_); intro _ _))
  (k_with "subscriptTail Name Name str int" => (k_here; (with_reducible show wpAny _ _ (subscriptTail _ _ (Value.str _ _) (Value.int _ _)) _ _ _); k_dflt (refine' item_l (hX := by first | with_reducible rfl | exact bs_l | exact qt_l | exact em_l | exact ws_l | exact str_self _) (h0 := by (first | assumption | omega | (simp only [List.length_append, List.length_cons, List.length_nil, List.length_take, List.length_drop]; omega))) (h1 := by (first | assumption | omega | (simp only [List.length_append, List.length_cons, List.length_nil, List.length_take, List.length_drop]; omega))) (hz := by (first | assumption | omega | (simp only [List.length_append, List.length_cons, List.length_nil, List.length_take, List.length_drop]; omega))) ?_ (hs := by first | exact .inl (by with_unfolding_all rfl) | exact .inr (by with_unfolding_all rfl))); intro _))
  (k_with "subscriptTail Name Slice str ref" => (k_here; (with_reducible show wpAny _ _ (subscriptTail _ (PySem.Expr.Slice none (some _) none _) _ _) _ _ _); k_dflt (refine' sliceTo_l (F := by k_asm) (N := by k_asm) (h0 := by (first | assumption | omega | (simp only [List.length_append, List.length_cons, List.length_nil, List.length_take, List.length_drop]; omega))) (h1 := by (first | assumption | omega | (simp only [List.length_append, List.length_cons, List.length_nil, List.length_take, List.length_drop]; omega))) (hz := by (first | assumption | omega | (simp only [List.length_append, List.length_cons, List.length_nil, List.length_take, List.length_drop]; omega))) ?_ (hs := by with_unfolding_all rfl) (ht := by (intro _; with_unfolding_all rfl))); intro _ _ _ _ _))
  (k_with "subscriptTail Name Slice str ref" => (k_here; (with_reducible show wpAny _ _ (subscriptTail _ (PySem.Expr.Slice (some _) none none _) _ _) _ _ _); k_dflt (refine' sliceFrom_l (F := by k_asm) (N := by k_asm) (h0 := by (first | assumption | omega | (simp only [List.length_append, List.length_cons, List.length_nil, List.length_take, List.length_drop]; omega))) (h1 := by (first | assumption | omega | (simp only [List.length_append, List.length_cons, List.length_nil, List.length_take, List.length_drop]; omega))) (hz := by (first | assumption | omega | (simp only [List.length_append, List.length_cons, List.length_nil, List.length_take, List.length_drop]; omega))) ?_ (hs := by with_unfolding_all rfl) (ht := by (intro _; with_unfolding_all rfl))); intro _ _ _ _ _))
  (k_with "call type:list" => (k_here; (with_reducible show wpAny _ _ (call (Value.type _) [Value.ref _]) _ _ _); k_dflt (refine' kll_range (hh := by exact rfl) (F := by k_asm) (N := by k_asm) (hr := by assumption) (hsmall := by exact small_one (by omega) (by omega) (by omega) (by omega)) (hn := by exact rangeSize_nat _ _) (hz := by omega) ?_); walk_at "i746731"))
  (k_with "exec For Name Call cons nil" => (k_here; k_dflt (refine' wpAny_For ?_ (hs := by exact fun _ => rfl))))
  (k_with "eval Name" => (k_here; (fail_if_success (with_reducible show wpAny _ _ (eval _ (compEnvC _ _ _ _)) _ _ _)); k_dflt (refine' nameX_L2 (hx := by rfl) (hk := by rfl) (hd := by rfl) (F := by k_asm) (hv := by (first | exact rfl | assumption | ((repeat refine (if_neg (by decide)).trans ?_); first | assumption | exact if_pos rfl))) ?_; k_whole)))
  (k_with "call builtin:len" => (k_here; (with_reducible show wpAny _ _ (call (Value.builtin "len") [Value.str _ _]) _ _ _); k_dflt (refine' len_l (hz := by omega) ?_); intro _ _))
  (k_with "subscriptTail" => (k_here; (with_reducible show wpAny _ _ (subscriptTail _ _ (Value.ref _) (Value.int _ _)) _ _ _); k_dflt (refine' card_sign (x := x) (n := n) (N := by k_asm) (hm := by k_mem) (e := by assumption) (hl := by first | assumption | exact rfl) (h0 := by assumption) (hn := by assumption) (hk := by exact rfl) ?_ (hs := by with_unfolding_all rfl)); intro sg tg eg gg1 gg2))
  (k_with "call builtin:chr" => (k_here; (with_reducible show wpAny _ _ (call (Value.builtin "chr") [Value.int _ _]) _ _ _); k_dflt (refine' card_chr (x := x) (n := n) (hi := by exact rfl) (hl := by exact rfl) (h0 := by assumption) (hn := by assumption) ?_); intro sg tg eg gg1 gg2))
  (k_with "call builtin:chr" => (k_here; (with_reducible show wpAny _ _ (call (Value.builtin "chr") [Value.int _ _]) _ _ _); k_dflt (refine' card_unseen (x := x) (hi := by exact rfl) (hl := by exact rfl) ?_); intro tu))
  trivial
set_option maxHeartbeats 4000000 in
theorem card_if {w : World} {q : Program} {mean : ExcName → Option Value} {mg mb : Str → Option Value} {loose : List Str} {n x : Int} {tn tx : Tok} {l : List (Str × Tok)} {lit : Str} {nD nU nE : Nat} {vs us : List Value} {Ds Du De : Addr} {tail : List (Addr × Obj)}
  {dp un : Nat} {gd : Option (List Code)} {outer : List Env} {A₀ : Around} {base h₀ : Heap} {L : Addr} {m : Str → Option Value} {s : Shared} {e : PySem.Expr} {sc : Scope} {Q : Value → Shared → Prop} {E : Value → Shared → Prop}
  (he : asgAt 65 3 = some e) (hsc : scAt 65 = some sc) (B : Below A₀ base outer h₀) (F : Fr h₀ L s.heap m) (X : (K0 w.params).In h₀) (N : News h₀ L s.heap ((De, listOf us.toArray nE) :: (Ds, listOf (strValues l).toArray nD) :: (Du, listOf vs.toArray nU) :: tail)) (T : Top q loose mean mg mb h₀)
  (hn0 : 208 ≤ n) (hn1 : n ≤ 268) (hx0 : 0 ≤ x) (hx1 : x < 5184) (hi : IntsAre us startsL) (hl : l.map (fun x => x.1) = Txt.split lit (Str.ofString " ")) (hlit : lit = signStr)
  (m1 : m (Str.ofString "number") = some (.int n tn)) (m2 : m (Str.ofString "x") = some (.int x tx)) (m3 : m (Str.ofString "signs") = some (.ref Ds)) (m4 : m (Str.ofString "starts") = some (.ref De))
  (h : ∀ l t tk, l = signOf n x → 1 ≤ l.length → l.length ≤ 3 → Q (.str ⟨l.toArray⟩ t) { s with toks := tk }) :
    wpAny (model rw_sn0078_01.row.prog w) (ktrTop dp un gd (Str.ofString "_law_card") sc L 165 (.ref 164) [] outer) (eval e (envX (Str.ofString "_law_card") sc L 165 (.ref 164) [])) Q E s := by
  revert X; k_fill; intro X
  have h1 : asgAt 65 3 = some _ := rfl
  have e1 := he.symm.trans h1
  have h2 : scAt 65 = some _ := rfl
  have e2 := hsc.symm.trans h2
  clear he hsc h1 h2
  injection e1 with e1
  injection e2 with e2
  subst e1 e2
  k_steps
  all_goals exact h _ _ _ (by assumption) (by assumption) (by assumption)
theorem mid_len {l : List Nat} {p c : Nat} (h : p ≤ l.length) : (l.take p ++ [c] ++ l.drop p).length = l.length + 1 := by
  rw [List.length_append, List.length_append, List.length_take, List.length_drop, Nat.min_eq_left h, List.length_singleton, Nat.add_right_comm, Nat.add_sub_of_le h]
theorem sz3m {a b n : Nat} (h : n ≤ 3) : min a n + (0 + 1) + (n - b) ≤ 100000 :=
  Nat.le_trans (Nat.add_le_add (Nat.add_le_add_right (Nat.le_trans (Nat.min_le_right _ _) h) _) (Nat.le_trans (Nat.sub_le _ _) h)) (by decide)
theorem sz3l {a n : Nat} (h : n ≤ 3) : min a n + (0 + 1) ≤ 100000 := Nat.le_trans (Nat.add_le_add_right (Nat.le_trans (Nat.min_le_right _ _) h) _) (by decide)
theorem rg_ConK1_1 : True := by
  k_with_none
  (k_with "my_cell_enter" => (refine' code_defG (B := by k_asm) (F := by k_asm) (by k_asm) (N := by k_asm) (T := by k_asm) (hA := by exact rfl) (hf := by exact rfl) (hke := by assumption) (ho := by k_is) (hcd := by k_is) (hroom := by ktr_room) (hbind := by exact BindsTo.of_eq rfl) (hloc := by exact locs rfl) ?_ (hco := by exact rfl) (hgen := by exact rfl) (hk := by exact rfl) (hcell := by decide); k_whole; intro g' L' h' FG'; (show let m0 := _; Fr _ _ _ m0 → _); intro m0 F'; intro N' B' X' T' GS'; (try dsimp only); (try k_lift B'); (try k_fold); (show let A' := _; let Q' := _; let E' := _; wpAny _ A' _ Q' E' _); intro A' Q' E'))
  (k_with "eval Constant int" => (refine constI ?_))
  (k_with "eval Constant str" => (refine constS ?_))
  (k_with "eval Call" => ((show let Q9 := _; wpAny _ _ _ Q9 _ _); intro Q9; refine Call_ ?_))
  (k_with "eval Call Attribute" => ((show let Q9 := _; wpAny _ _ _ Q9 _ _); intro Q9; refine MethodCall_ ?_))
  (k_with "exec If" => ((show let Q9 := _; wpAny _ _ _ Q9 _ _); intro Q9; refine wpAny_If ?_))
  (k_with "exec Assign" => ((show let Q9 := _; wpAny _ _ _ Q9 _ _); intro Q9; refine wpAny_Assign_Name ?_))
  (k_with "exec AugAssign" => ((show let Q9 := _; wpAny _ _ _ Q9 _ _); intro Q9; refine wpAny_AugAssign_Name ?_))
  (k_with "eval BinOp" => ((show let Q9 := _; wpAny _ _ _ Q9 _ _); intro Q9; refine wpAny_BinOp ?_))
  (k_with "eval Compare" => ((show let Q9 := _; wpAny _ _ _ Q9 _ _); intro Q9; refine wpAny_Compare1 ?_))
  (k_with "isTrue Compare" => ((show let Q9 := _; wpAny _ _ _ Q9 _ _); intro Q9; refine wpAny_isTrue_Compare1 ?_))
  (k_with "eval Subscript" => ((show let Q9 := _; wpAny _ _ _ Q9 _ _); intro Q9; refine Subscript_ ?_))
  (k_with "my_k_all" => (exact TailOff.ne (by assumption)))
  (k_with "my_k_all" => (exact allLt_ne (by assumption)))
  (k_with "a" => (with_reducible assumption))
  (k_with "cn" => (first | k_extra "a" | (apply And.right; first | k_extra "a" | (apply And.right; first | k_extra "a" | (apply And.right; first | k_extra "a" | (apply And.right; first | k_extra "a" | (apply And.right; first | k_extra "a" | (apply And.right; first | k_extra "a" | (apply And.right; first | k_extra "a" | (apply And.right; first | k_extra "a" | (apply And.right; first | k_extra "a" | (apply And.right; first | k_extra "a" | (apply And.right; first | k_extra "a" | (apply And.right; first | k_extra "a" | (apply And.right; k_extra "a")))))))))))))))
  (k_with "cj" => (first | k_extra "cn" | (apply And.left; k_extra "cn")))
  (k_with "lt" => ((first | (with_reducible show @LT.lt Nat _ _ _) | (with_reducible show @LE.le Nat _ _ _)); first | k_extra "cj" | (with_reducible refine Nat.lt_of_succ_lt ?_; k_extra "cj") | (with_reducible refine Nat.le_of_lt ?_; first | k_extra "cj" | (refine Nat.lt_of_succ_lt ?_; k_extra "cj")) | (with_reducible refine Nat.lt_trans ?_ (by with_reducible assumption); k_extra "lt")))
  (k_with "lt0" => (first | with_reducible exact Nat.lt_succ_self _ | with_reducible assumption | (with_reducible refine Nat.lt_succ_of_lt ?_; k_extra "lt0")))
  (k_with "my_k_ne" => (refine neN ?_; (try dsimp only); first | (refine Nat.ne_of_lt ?_; k_extra "lt0") | (refine Nat.ne_of_gt ?_; k_extra "lt0") | (refine Nat.ne_of_lt ?_; k_extra "lt") | (refine Nat.ne_of_gt ?_; k_extra "lt")))
  (k_with "call builtin:len" => (k_here; (with_reducible show wpAny _ _ (call (Value.builtin "len") [Value.str _ _]) _ _ _); k_dflt (refine' len_l (hz := by (first | assumption | omega | (simp only [List.length_append, List.length_cons, List.length_nil, List.length_take, List.length_drop]; omega))) ?_); intro _ _))
  (k_with "binaryOp Add str str" => (k_here; (with_reducible show wpAny _ _ (binaryOp _ (Value.str _ _) (Value.str _ _)) _ _ _); k_dflt (refine' add_l (hX := by first | with_reducible rfl | exact bs_l | exact qt_l | exact em_l | exact ws_l | exact str_self _) (hY := by first | with_reducible rfl | exact bs_l | exact qt_l | exact em_l | exact ws_l | exact str_self _) (hz := by (first | assumption | omega | (simp only [List.length_append, List.length_cons, List.length_nil, List.length_take, List.length_drop]; first | exact sz3m (by with_reducible assumption) | exact sz3l (by with_reducible assumption) | omega))) ?_); intro _ _))
  (k_with "inplaceOp Add str str" => (k_here; (with_reducible show wpAny _ _ (inplaceOp _ (Value.str _ _) (Value.str _ _)) _ _ _); k_dflt (refine' iadd_l (hX := by first | with_reducible rfl | exact bs_l | exact qt_l | exact em_l | exact ws_l | exact str_self _) (hY := by first | with_reducible rfl | exact bs_l | exact qt_l | exact em_l | exact ws_l | exact str_self _) (hz := by (first | assumption | omega | (simp only [List.length_append, List.length_cons, List.length_nil, List.length_take, List.length_drop]; omega))) ?_); intro _ _))
  (k_with "subscriptTail Name Name str int" => (k_here; (with_reducible show wpAny _ _ (subscriptTail _ _ (Value.str _ _) (Value.int _ _)) _ _ _); k_dflt (refine' item_l (hX := by first | with_reducible rfl | exact bs_l | exact qt_l | exact em_l | exact ws_l | exact str_self _) (h0 := by (first | assumption | omega | (simp only [List.length_append, List.length_cons, List.length_nil, List.length_take, List.length_drop]; omega))) (h1 := by (first | assumption | omega | (simp only [List.length_append, List.length_cons, List.length_nil, List.length_take, List.length_drop]; omega))) (hz := by (first | assumption | omega | (simp only [List.length_append, List.length_cons, List.length_nil, List.length_take, List.length_drop]; omega))) ?_ (hs := by first | exact .inl (by with_unfolding_all rfl) | exact .inr (by with_unfolding_all rfl))); intro _))
  (k_with "subscriptTail Name Slice str ref" => (k_here; (with_reducible show wpAny _ _ (subscriptTail _ (PySem.Expr.Slice none (some _) none _) _ _) _ _ _); k_dflt (refine' sliceTo_l (F := by k_asm) (N := by k_asm) (h0 := by (first | assumption | omega | (simp only [List.length_append, List.length_cons, List.length_nil, List.length_take, List.length_drop]; omega))) (h1 := by (first | assumption | omega | (simp only [List.length_append, List.length_cons, List.length_nil, List.length_take, List.length_drop]; omega))) (hz := by (first | assumption | omega | (simp only [List.length_append, List.length_cons, List.length_nil, List.length_take, List.length_drop]; omega))) ?_ (hs := by with_unfolding_all rfl) (ht := by (intro _; with_unfolding_all rfl))); intro _ _ _ _ _))
  (k_with "subscriptTail Name Slice str ref" => (k_here; (with_reducible show wpAny _ _ (subscriptTail _ (PySem.Expr.Slice (some _) none none _) _ _) _ _ _); k_dflt (refine' sliceFrom_l (F := by k_asm) (N := by k_asm) (h0 := by (first | assumption | omega | (simp only [List.length_append, List.length_cons, List.length_nil, List.length_take, List.length_drop]; omega))) (h1 := by (first | assumption | omega | (simp only [List.length_append, List.length_cons, List.length_nil, List.length_take, List.length_drop]; omega))) (hz := by (first | assumption | omega | (simp only [List.length_append, List.length_cons, List.length_nil, List.length_take, List.length_drop]; omega))) ?_ (hs := by with_unfolding_all rfl) (ht := by (intro _; with_unfolding_all rfl))); intro _ _ _ _ _))
  (k_with "call type:list" => (k_here; (with_reducible show wpAny _ _ (call (Value.type _) [Value.ref _]) _ _ _); k_dflt (refine' kll_range (hh := by exact rfl) (F := by k_asm) (N := by k_asm) (hr := by assumption) (hsmall := by exact small_one (by omega) (by omega) (by omega) (by omega)) (hn := by exact rangeSize_nat _ _) (hz := by omega) ?_); walk_at "i746731"))
  (k_with "exec For Name Call cons nil" => (k_here; k_dflt (refine' wpAny_For ?_ (hs := by exact fun _ => rfl))))
  (k_with "eval Name" => (k_here; (fail_if_success (with_reducible show wpAny _ _ (eval _ (compEnvC _ _ _ _)) _ _ _)); k_dflt (refine' nameX_L2 (hx := by rfl) (hk := by rfl) (hd := by rfl) (F := by k_asm) (hv := by (first | exact rfl | assumption | ((repeat refine (if_neg (by decide)).trans ?_); first | assumption | exact if_pos rfl))) ?_; k_whole)))
  (k_with "call builtin:len" => (k_here; (with_reducible show wpAny _ _ (call (Value.builtin "len") [Value.str _ _]) _ _ _); k_dflt (refine' len_l (hz := by omega) ?_); intro _ _))
  (k_with "subscriptTail" => (k_here; (with_reducible show wpAny _ _ (subscriptTail _ _ (Value.ref _) (Value.int _ _)) _ _ _); k_dflt (refine' card_sign (x := x) (n := n) (N := by k_asm) (hm := by k_mem) (e := by assumption) (hl := by first | assumption | exact rfl) (h0 := by assumption) (hn := by assumption) (hk := by exact rfl) ?_ (hs := by with_unfolding_all rfl)); intro sg tg eg gg1 gg2))
  (k_with "call builtin:chr" => (k_here; (with_reducible show wpAny _ _ (call (Value.builtin "chr") [Value.int _ _]) _ _ _); k_dflt (refine' card_chr (x := x) (n := n) (hi := by exact rfl) (hl := by exact rfl) (h0 := by assumption) (hn := by assumption) ?_); intro sg tg eg gg1 gg2))
  (k_with "call builtin:chr" => (k_here; (with_reducible show wpAny _ _ (call (Value.builtin "chr") [Value.int _ _]) _ _ _); k_dflt (refine' card_unseen (x := x) (hi := by exact rfl) (hl := by exact rfl) ?_); intro tu))
  (k_with "loadName" => (k_here; k_dflt (refine' loadX_L (F := by k_asm) (hv := by (first | exact rfl | assumption | ((repeat refine (if_neg (by decide)).trans ?_); first | assumption | exact if_pos rfl))) ?_ (hk := by rfl) (hx := by rfl); k_whole)))
  (k_with "eval IfExp" => (k_here; k_dflt (refine' card_if (n := n) (x := x) (he := by exact rfl) (hsc := by exact rfl) (B := by k_asm) (F := by k_asm) (X := by k_asm) (N := by k_asm) (T := by k_asm) (hn0 := by assumption) (hn1 := by assumption) (hx0 := by assumption) (hx1 := by assumption) (hi := by exact ints_check rfl) (hl := by assumption) (hlit := by exact rfl) (m1 := by rfl) (m2 := by rfl) (m3 := by rfl) (m4 := by rfl) ?_); intro sg tg k9 eg gg1 gg2; have pb := fmod_lt (x.fdiv 12) (k := (sg.length : Int) + 1) (by omega)))
  (k_with "omega" => (first | k_extra "lt"))
  (k_with "i746731" => (intro D' us' c' h' tk' F' N' l1 i1; (try k_lt l1); revert D' us' c' h' tk' F' N' l1 i1; intros))
  trivial
set_option maxHeartbeats 4000000 in
theorem c_card (w : World) (q : Program) (mean : ExcName → Option Value) (mg mb : Str → Option Value) (loose : List Str) (tail : List (Addr × Obj)) (n x y : Int) (tn tx ty : Tok) :
  ClG 3 rw_sn0078_01.row.prog w (K0 w.params) q loose mean mg mb 165 tail [] (208 ≤ n ∧ n ≤ 268 ∧ 0 ≤ x ∧ x < 5184 ∧ 0 ≤ y ∧ y < 5184) [.int n tn, .int x tx, .int y ty]
    (fun v news' => ∃ t, v = .str ⟨(cardOf n x y).toArray⟩ t ∧ news' = tail) := by
  k_fill
  dsimp only [ClG]; intros; rename_i hpre _ _ hret; obtain ⟨hn0, hn1, hx0, hx1, hy0, hy1⟩ := hpre
  k_dflt cell_enter
  k_steps
  have hW : sg.take ((x.fdiv 12).fmod ((sg.length : Int) + 1)).toNat ++ [(unseenL.getD (x.fmod 27).toNat 0).toNat] ++ sg.drop ((x.fdiv 12).fmod ((sg.length : Int) + 1)).toNat = wordOf n x := by
    rw [eg]; rfl
  generalize hWg : sg.take ((x.fdiv 12).fmod ((sg.length : Int) + 1)).toNat ++ [(unseenL.getD (x.fmod 27).toNat 0).toNat] ++ sg.drop ((x.fdiv 12).fmod ((sg.length : Int) + 1)).toNat = W at *
  have hWs : W.length = sg.length + 1 := by
    rw [← hWg]
    exact mid_len (Int.toNat_le.mpr (Int.le_of_lt_add_one (fmod_lt _ (by omega)).2))
  have hWl : W.length ≤ 4 := by rw [hWs]; exact Nat.succ_le_succ (by assumption)
  have hWn : W.length = W.length - 1 + 1 := by rw [hWs]; rfl
  refine' forRange W.length (fun i m nx => nx = tail ∧ (∃ tt, m (Str.ofString "text") = some (.str ⟨(slashed y 0 (W.take i)).toArray⟩ tt)) ∧ (∃ tw, m (Str.ofString "word") = some (.str ⟨W.toArray⟩ tw)) ∧ m (Str.ofString "y") = some (.int y ty)) ?hh (by k_asm) ?nn (by assumption) ?hs ?hn ⟨rfl, ?t0, ?w0, rfl⟩ ?adr ?turn ?done ?ht
  case hh => exact rfl
  case nn => exact news_sub (by assumption) fun p hp => by repeat (first | assumption | refine List.mem_cons_of_mem _ ?_)
  case hs => exact small_one (by omega) (by omega) (by omega) (by omega)
  case hn => rw [rangeSize_nat]; omega
  case t0 => exact ⟨_, (if_pos rfl).trans (by rw [em_l]; rfl)⟩
  case w0 => exact ⟨_, (if_neg (by decide)).trans (if_pos rfl)⟩
  case adr =>
    rintro i m nx ⟨rfl, _⟩ p hp
    exact ⟨p, hp, rfl⟩
  case ht => exact fun _ _ => rfl
  case turn =>
    rintro i ti m₁ nx hh gs tkk I o' hi ⟨rfl, ⟨tt, hm1⟩, ⟨tw, hm2⟩, hm3⟩ hI F' N' Q' hQ E₁ E₂
    have hsl : (slashed y 0 (W.take i)).length ≤ 8 := by
      have := slashed_len y (W.take i) 0
      rw [List.length_take] at this; omega
    have hki : (0 : Int) + (i : Int) = (i : Int) := Int.zero_add _
    rw [hki]
    have hst := slashed_take y hi
    refine wpAny_assign_Name ?_
    k_steps
    · refine' hQ.next _ _ _ _ _ (by assumption) (by assumption) ⟨rfl, ⟨_, ?a1⟩, ⟨tw, ?b1⟩, ?c1⟩
      case a1 =>
        refine (if_pos rfl).trans ?_
        rw [hst, if_pos (by assumption), bs_l, str_app, str_app]; rfl
      case b1 => exact (if_neg (by decide)).trans ((if_neg (by decide)).trans hm2)
      case c1 => exact (if_neg (by decide)).trans ((if_neg (by decide)).trans hm3)
    · refine' hQ.next _ _ _ _ _ (by assumption) (by assumption) ⟨rfl, ⟨_, ?a2⟩, ⟨tw, ?b2⟩, ?c2⟩
      case a2 =>
        refine (if_pos rfl).trans ?_
        rw [hst, if_neg (by assumption)]; rfl
      case b2 => exact (if_neg (by decide)).trans ((if_neg (by decide)).trans hm2)
      case c2 => exact (if_neg (by decide)).trans ((if_neg (by decide)).trans hm3)
  case done =>
    rintro m₁ nx hh gs tkk ⟨rfl, ⟨tt, hm1⟩, ⟨tw, hm2⟩, hm3⟩ F' N'
    rw [List.take_length] at hm1
    have hsl : (slashed y 0 W).length ≤ 8 := by
      have := slashed_len y W 0
      omega
    dsimp only
    have hq := fmod_lt (y.fdiv 2) (k := 4) (by decide)
    k_steps
    · (refine' hret _ _ _ _ _ ⟨_, congrArg (fun z => Value.str z _) ?p1, rfl⟩ (by k_asm) (by assumption) ?x1; (case p1 => (rw [qt_l, str_app, str_app, item_ws (by omega) (by omega), str_app]; unfold cardOf; rw [if_pos (by assumption), hW]; rfl)); (case x1 => exact clm_ext (by assumption) (by assumption) (by assumption) (by assumption) fun p hp => .inr (by repeat (first | assumption | refine List.mem_cons_of_mem _ ?_))))
    · (refine' hret _ _ _ _ _ ⟨_, congrArg (fun z => Value.str z _) ?p2, rfl⟩ (by k_asm) (by assumption) ?x2; (case p2 => (rw [item_ws (by omega) (by omega), str_app]; unfold cardOf; rw [if_neg (by assumption), hW]; rfl)); (case x2 => exact clm_ext (by assumption) (by assumption) (by assumption) (by assumption) fun p hp => .inr (by repeat (first | assumption | refine List.mem_cons_of_mem _ ?_))))
theorem rz_ConG : True := by k_with_none; trivial
local macro_rules | `(tactic| omega) => `(tactic| omega (config := {}))
section
variable {M : Model} {A : Around} {R : GenEnd} {Y : Protocol} {n : Nat} {s₀ : Shared} {c : Code} {fs : List Frame} {s : Shared} {env : Env}
  {K : Flow → Sem Fin} {H : Value → Sem Fin} {gd : Bool → Bool} {lv : List Value → List Value}
theorem seg_If {test : PySem.Expr} {body orelse : List Stmt} {pos : Pos}
    (h : wpAny M (A.over c fs) (isTrue test env (eval test env)) (fun b s' => if b = true then Seg M A R Y n s₀ c ((execs body env).wrap K H gd lv) fs s' else Seg M A R Y n s₀ c ((execs orelse env).wrap K H gd lv) fs s')
      (fun x s' => Seg M A R Y n s₀ c (H x) fs s') s) : Seg M A R Y n s₀ c ((exec (.If test body orelse pos) env).wrap K H gd lv) fs s := by
  rw [exec_If]
  refine seg_bind_wrap (wpAny_standAt ?_)
  refine seg_bind_wrap (wpAny_mono h (fun b s' h' => ?_) fun _ _ e => e)
  cases b with
  | true => rw [if_pos rfl] at h' ⊢; exact h'
  | false => rw [if_neg Bool.false_ne_true] at h' ⊢; exact h'
noncomputable abbrev loopFrame (K : Flow → Sem Fin) (H : Value → Sem Fin) (gd : Bool → Bool) (lv : List Value → List Value) (env : Env) (c : Code) (p : Pos) : Frame :=
  .ret (fun r => ((match r with | .ok f => (.pure f : Sem Flow) | .error e => .raise e).onRaise fun (x : Value) => do
        if (← field x 1) == Value.none then unsupported "frame.own-activation:exception-without-traceback"
        setFlight x env.frame).wrap K H gd lv) none (gd false) (lv []) c p []
theorem seg_For {target iter : PySem.Expr} {body orelse : List Stmt} {pos : Pos}
    (h : wpAny M (A.over c fs) (eval iter env) (fun x s₁ => wpAny M (A.over c fs) (pyIter x) (fun it s₂ => ∀ p, Seg M A R Y n s₀ (.forLoop target it body orelse env) (M.den (.forLoop target it body orelse env)) (loopFrame K H gd lv env c p :: fs) s₂)
      (fun x s' => Seg M A R Y n s₀ c (H x) fs s') s₁) (fun x s' => Seg M A R Y n s₀ c (H x) fs s') s)
    (hs : ∀ x, foldedSetIterable iter env x = pure x := by intro _; rfl) :
    Seg M A R Y n s₀ c ((exec (.For target iter body orelse pos) env).wrap K H gd lv) fs s := by
  rw [exec_For]
  refine seg_bind_wrap (wpAny_standAt ?_)
  refine seg_bind_wrap (wpAny_mono h (fun x s₁ h₁ => ?_) fun _ _ e => e)
  refine seg_bind_wrap (wpAny_of_eq (hs x) ?_)
  refine seg_bind_wrap (wpAny_standAt ?_)
  refine seg_bind_wrap (wpAny_holding (wpAny_mono h₁ (fun it s₂ h₂ => ?_) fun _ _ e => e))
  exact seg_call h₂
end
section
variable {prog : Program} {w : World} {A : Around} {R : GenEnd} {Y : Protocol} {n : Nat} {s₀ : Shared} {fs : List Frame} {s : Shared} {env : Env}
theorem seg_forLoop {target : PySem.Expr} {it : Value} {body : List Stmt} {k : Result → Sem Fin} {hd : Option Value} {g : Bool} {l : List Value} {c₁ : Code} {p₁ : Pos}
    (h : wpAny (model prog w) (A.over (.forLoop target it body [] env) (.ret k hd g l c₁ p₁ [] :: fs)) (pyNext it) (fun r s' => match r with
      | none => Seg (model prog w) A R Y n s₀ c₁ (k (.ok .next)) fs s'
      | some v => wpAny (model prog w) (A.over (.forLoop target it body [] env) (.ret k hd g l c₁ p₁ [] :: fs)) (letOwnedTupleGo target it v) (fun _ s₁ =>
          wpAny (model prog w) (A.over (.forLoop target it body [] env) (.ret k hd g l c₁ p₁ [] :: fs)) (assign target env v) (fun _ s₂ =>
            Seg (model prog w) A R Y n s₀ (.forLoop target it body [] env) ((execs body env).wrap (fun f => match f with
              | .next | .cont => .pure (.again (.forLoop target it body [] env))
              | .brk => .pure (.done .next)
              | .ret v => .pure (.done (.ret v))) (fun e => (do noteFrame e env; theTreesLotGoes e : Sem Unit).wrap (fun _ => .raise e) .raise id id) id id) (.ret k hd g l c₁ p₁ [] :: fs) s₂) (fun _ _ => False) s₁) (fun _ _ => False) s')
      (fun _ _ => False) s) :
    Seg (model prog w) A R Y n s₀ (.forLoop target it body [] env) ((model prog w).den (.forLoop target it body [] env)) (.ret k hd g l c₁ p₁ [] :: fs) s := by
  show Seg _ A R Y n s₀ _ ((forTurn target it body [] env).onRaise (fun x => do noteFrame x env; theTreesLotGoes x)) _ s
  unfold forTurn
  rw [Sem.onRaise_eq_wrap]
  refine seg_bind_wrap (wpAny_standAt ?_)
  refine seg_bind_wrap (wpAny_onRaise (wpAny_mono h (fun r s' h' => ?_) fun _ _ f => f.elim))
  cases r with
  | none =>
    show Seg _ A R Y n s₀ _ (.pure (.again (.block [] env))) _ s'
    refine seg_again rfl ?_
    show Seg _ A R Y n s₀ _ (leafOf (.ok .next)) _ s'
    exact seg_leaf _ h'
  | some v =>
    refine seg_bind_wrap (wpAny_mono h' (fun _ s₁ h₁ => ?_) fun _ _ f => f.elim)
    refine seg_bind_wrap (wpAny_mono h₁ (fun _ s₂ h₂ => ?_) fun _ _ f => f.elim)
    rw [Sem.bind_eq_wrap', Sem.wrap_wrap]
    rw [Sem.wrap_congr (execs body env) _ _ (K' := fun f => match f with
            | .next | .cont => .pure (.again (.forLoop target it body [] env))
            | .brk => .pure (.done .next)
            | .ret v => .pure (.done (.ret v))) (H' := (fun e => (do noteFrame e env; theTreesLotGoes e : Sem Unit).wrap (fun _ => .raise e) .raise id id))
        (fun f => by cases f <;> rfl)
        (fun e => by first | exact Sem.bind_eq_wrap _ _ | (show (do noteFrame e env; theTreesLotGoes e : Sem Unit).bind (fun _ => .raise e) = _; rw [Sem.bind_eq_wrap]))]
    exact h₂
end
noncomputable def escI : Nat → Bool → List Nat → List (Int × List Nat)
  | i, true, [] => [((i : Int) - 1, [92])]
  | _, false, [] => []
  | i, true, c :: cs => ((i : Int), [92] ++ [c]) :: escI (i + 1) false cs
  | i, false, c :: cs => if c = 92 then escI (i + 1) true cs else ((i : Int), [c]) :: escI (i + 1) false cs
noncomputable def GSince (Lg G : Addr) (s₀ s : Shared) : Prop := ∃ h' tk, s = { s₀ with heap := h', toks := tk } ∧ ∀ b o, b ≠ Lg → @LE.le Nat _ b G → s₀.heap.get? b = some o → h'.get? b = some o
noncomputable def KeepL (pl : List Addr) (s s'' : Shared) : Prop := ∀ b ∈ pl, ∀ o, s.heap.get? b = some o → s''.heap.get? b = some o
noncomputable def escY (Lg G : Addr) (X : List (Int × List Nat)) : Protocol := fun m s₀ v s kap =>
  (∃ x T a b, X[X.length - 1 - m]? = some x ∧ v = .ref T ∧ s.heap.IsTuple T #[.int x.1 a, .str ⟨x.2.toArray⟩ b] ∧ @LT.lt Nat _ G T) ∧ GSince Lg G s₀ s ∧ ∃ pl : List Addr, (∀ b ∈ pl, (b = Lg ∨ @LE.le Nat _ G b) ∧ ∃ o, s.heap.get? b = some o) ∧ G ∈ pl ∧ ∀ s'', KeepL pl s s'' → kap (.send .none) s''
noncomputable def escR (Lg G : Addr) : GenEnd := fun n s₀ r s₁ => r = .ok (.ret .none) ∧ (n = 0 ∧ GSince Lg G s₀ s₁)
theorem GSince.step {Lg G : Addr} {s₀ s : Shared} (x : GSince Lg G s₀ s) {h' : Heap} {tk : Nat} (hk : ∀ b o, b ≠ Lg → @LE.le Nat _ b G → s.heap.get? b = some o → h'.get? b = some o) : GSince Lg G s₀ { s with heap := h', toks := tk } := by
  obtain ⟨h₁, tk₁, rfl, hk₁⟩ := x
  exact ⟨h', tk, rfl, fun b o hb hg e => hk b o hb hg (hk₁ b o hb hg e)⟩
noncomputable def genAt : Option (PySem.Expr × PySem.Expr × List Stmt × Pos × List Stmt × List Stmt × Scope) := match pw_sn0078_01.main.body[(1 : Nat)]? with
  | some (.FunctionDef _ _ [a, b, .For t i fb [] p, d] _ _ _ sc _ _ _) => some (t, i, fb, p, [d], [a, b], sc)
  | _ => none
noncomputable def E0 : Heap := { objs := #[] }
theorem storeE {M : Model} {A : Around} {E : Value → Shared → Prop} {s : Shared} {h₀ : Heap} {L a : Addr} {m : Str → Option Value} {cn : Str} {cs : Scope} {ccd : Value} {cl : List (Str × Addr)} {x : Str} {v : Value} {Q : Unit → Shared → Prop} (F : Fr h₀ L s.heap m)
    (h : ∀ h', h'.Ns L (fun y => if y = x then some v else m y) → Heap.SameBut L s.heap h' → Q () { s with heap := h', toks := s.toks + 1 }) (hk : cs.kind = .function := by rfl) (hx : (envX cn cs L a ccd cl).kindOf x = some .local := by rfl) :
    wpAny M A (storeName (envX cn cs L a ccd cl) x v) Q E s :=
  wpAny_storeName_local hx F.ns h (by show (cs.kind == .class || (cs.kind == .module && L != mainGlobals)) = false; rw [hk]; rfl)
structure EscParts where
  (t1 e1 t2 e2 t3 e3 ie : PySem.Expr)
  (a1 a2 h0 h1 : Stmt)
noncomputable def escParts : Option EscParts := match genAt with
  | some (_, ie, [.If t1 [.Expr (.Yield (some e1) _) _, a1] [.If t2 [a2] [.Expr (.Yield (some e2) _) _] _] _], _, [.If t3 [.Expr (.Yield (some e3) _) _] [] _], [h0, h1], _) => some ⟨t1, e1, t2, e2, t3, e3, ie, a1, a2, h0, h1⟩
  | _ => none
noncomputable def escSc : Option Scope := match genAt with
  | some (_, _, _, _, _, _, sc) => some sc
  | _ => none
theorem rg_ConH2_1 : True := by
  k_with_none
  (k_with "eval Name" => (k_here; (fail_if_success (with_reducible show wpAny _ _ (eval _ (compEnvC _ _ _ _)) _ _ _)); k_dflt (refine' nameX_L2 (hx := by rfl) (hk := by rfl) (hd := by rfl) (F := by k_asm) (hv := by (first | exact rfl | assumption | ((repeat refine (if_neg (by decide)).trans ?_); first | assumption | exact if_pos rfl))) ?_; k_whole)))
  (k_with "eval Constant int" => (refine constI ?_))
  (k_with "eval Constant str" => (refine constS ?_))
  (k_with "eval Call" => ((show let Q9 := _; wpAny _ _ _ Q9 _ _); intro Q9; refine Call_ ?_))
  (k_with "eval Call Attribute" => ((show let Q9 := _; wpAny _ _ _ Q9 _ _); intro Q9; refine MethodCall_ ?_))
  (k_with "exec If" => ((show let Q9 := _; wpAny _ _ _ Q9 _ _); intro Q9; refine wpAny_If ?_))
  (k_with "exec Assign" => ((show let Q9 := _; wpAny _ _ _ Q9 _ _); intro Q9; refine wpAny_Assign_Name ?_))
  (k_with "exec AugAssign" => ((show let Q9 := _; wpAny _ _ _ Q9 _ _); intro Q9; refine wpAny_AugAssign_Name ?_))
  (k_with "eval BinOp" => ((show let Q9 := _; wpAny _ _ _ Q9 _ _); intro Q9; refine wpAny_BinOp ?_))
  (k_with "eval Compare" => ((show let Q9 := _; wpAny _ _ _ Q9 _ _); intro Q9; refine wpAny_Compare1 ?_))
  (k_with "isTrue Compare" => ((show let Q9 := _; wpAny _ _ _ Q9 _ _); intro Q9; refine wpAny_isTrue_Compare1 ?_))
  (k_with "eval Subscript" => ((show let Q9 := _; wpAny _ _ _ Q9 _ _); intro Q9; refine Subscript_ ?_))
  (k_with "binaryOp Add str str" => (k_here; (with_reducible show wpAny _ _ (binaryOp _ (Value.str _ _) (Value.str _ _)) _ _ _); k_dflt (refine' add_l (hX := by first | with_reducible rfl | exact bs_l | exact qt_l | exact em_l | exact ws_l | exact str_self _) (hY := by first | with_reducible rfl | exact bs_l | exact str_self _) (hz := by simp) ?_); intro _ _))
  (k_with "newTuple" => (k_here; refine wpAny_newTuple ?_))
  (k_with "storeName" => (k_here; k_dflt (refine' storeE (F := by k_asm) ?_ (hk := by rfl) (hx := by rfl)); intro _ _ _))
  trivial
set_option maxHeartbeats 4000000 in
theorem ev_t1 {hb : Heap} {w : World} {A : Around} {Lg : Addr} {m : Str → Option Value} {s : Shared} {sc : Scope} {p : EscParts} {b : Bool} {Q : Bool → Shared → Prop} {E : Value → Shared → Prop} (X : (K0 w.params).In hb) (hp : escParts = some p) (hsc : escSc = some sc) (F : Fr E0 Lg s.heap m) (hm : m (Str.ofString "escape") = some (.bool b)) (h : Q b s) :
    wpAny (model rw_sn0078_01.row.prog w) A (isTrue p.t1 (envX (Str.ofString "_iter_escaped_chars") sc Lg 21 (.ref 20) []) (eval p.t1 (envX (Str.ofString "_iter_escaped_chars") sc Lg 21 (.ref 20) []))) Q E s := by
  have N : News E0 Lg s.heap [] := News.nil
  revert X; k_fill; intro X
  have h1 : escParts = some _ := rfl
  have e1 := hp.symm.trans h1
  have h2 : escSc = some _ := rfl
  have e2 := hsc.symm.trans h2
  clear hp hsc h1 h2
  injection e1 with e1
  injection e2 with e2
  subst e1 e2
  dsimp only
  k_steps
  all_goals exact h
set_option maxHeartbeats 4000000 in
theorem ev_t3 {hb : Heap} {w : World} {A : Around} {Lg : Addr} {m : Str → Option Value} {s : Shared} {sc : Scope} {p : EscParts} {b : Bool} {Q : Bool → Shared → Prop} {E : Value → Shared → Prop} (X : (K0 w.params).In hb) (hp : escParts = some p) (hsc : escSc = some sc) (F : Fr E0 Lg s.heap m) (hm : m (Str.ofString "escape") = some (.bool b)) (h : Q b s) :
    wpAny (model rw_sn0078_01.row.prog w) A (isTrue p.t3 (envX (Str.ofString "_iter_escaped_chars") sc Lg 21 (.ref 20) []) (eval p.t3 (envX (Str.ofString "_iter_escaped_chars") sc Lg 21 (.ref 20) []))) Q E s := by
  have N : News E0 Lg s.heap [] := News.nil
  revert X; k_fill; intro X
  have h1 : escParts = some _ := rfl
  have e1 := hp.symm.trans h1
  have h2 : escSc = some _ := rfl
  have e2 := hsc.symm.trans h2
  clear hp hsc h1 h2
  injection e1 with e1
  injection e2 with e2
  subst e1 e2
  dsimp only
  k_steps
  all_goals exact h
set_option maxHeartbeats 4000000 in
theorem ev_t2 {hb : Heap} {w : World} {A : Around} {Lg : Addr} {m : Str → Option Value} {s : Shared} {sc : Scope} {p : EscParts} {c : Nat} {u : Tok} {Q : Bool → Shared → Prop} {E : Value → Shared → Prop} (X : (K0 w.params).In hb) (hp : escParts = some p) (hsc : escSc = some sc) (F : Fr E0 Lg s.heap m) (hm : m (Str.ofString "ch") = some (.str ⟨#[c]⟩ u)) (h : ∀ tk, Q (c == 92) { s with toks := tk }) :
    wpAny (model rw_sn0078_01.row.prog w) A (isTrue p.t2 (envX (Str.ofString "_iter_escaped_chars") sc Lg 21 (.ref 20) []) (eval p.t2 (envX (Str.ofString "_iter_escaped_chars") sc Lg 21 (.ref 20) []))) Q E s := by
  have N : News E0 Lg s.heap [] := News.nil
  revert X; k_fill; intro X
  have h1 : escParts = some _ := rfl
  have e1 := hp.symm.trans h1
  have h2 : escSc = some _ := rfl
  have e2 := hsc.symm.trans h2
  clear hp hsc h1 h2
  injection e1 with e1
  injection e2 with e2
  subst e1 e2
  dsimp only
  k_steps
  all_goals (rw [eq_slash]; exact h _)
set_option maxHeartbeats 4000000 in
theorem ev_e1 {hb : Heap} {w : World} {A : Around} {Lg : Addr} {m : Str → Option Value} {s : Shared} {sc : Scope} {p : EscParts} {c : Nat} {u tp : Tok} {i : Int} {Q : Value → Shared → Prop} {E : Value → Shared → Prop} (X : (K0 w.params).In hb) (hp : escParts = some p) (hsc : escSc = some sc) (F : Fr E0 Lg s.heap m) (hm : m (Str.ofString "ch") = some (.str ⟨#[c]⟩ u)) (hm2 : m (Str.ofString "pos") = some (.int i tp)) (h : ∀ tp' t2 tk, Q (.ref s.heap.objs.size) { s with heap := s.heap.push { cls := .type "tuple", data := .seq #[.int i tp', .str ⟨([92] ++ [c] : List Nat).toArray⟩ t2] }, toks := tk }) :
    wpAny (model rw_sn0078_01.row.prog w) A (eval p.e1 (envX (Str.ofString "_iter_escaped_chars") sc Lg 21 (.ref 20) [])) Q E s := by
  have N : News E0 Lg s.heap [] := News.nil
  revert X; k_fill; intro X
  have h1 : escParts = some _ := rfl
  have e1 := hp.symm.trans h1
  have h2 : escSc = some _ := rfl
  have e2 := hsc.symm.trans h2
  clear hp hsc h1 h2
  injection e1 with e1
  injection e2 with e2
  subst e1 e2
  dsimp only
  k_steps
  all_goals exact h _ _ _
set_option maxHeartbeats 4000000 in
theorem ev_e2 {hb : Heap} {w : World} {A : Around} {Lg : Addr} {m : Str → Option Value} {s : Shared} {sc : Scope} {p : EscParts} {c : Nat} {u tp : Tok} {i : Int} {Q : Value → Shared → Prop} {E : Value → Shared → Prop} (X : (K0 w.params).In hb) (hp : escParts = some p) (hsc : escSc = some sc) (F : Fr E0 Lg s.heap m) (hm : m (Str.ofString "ch") = some (.str ⟨#[c]⟩ u)) (hm2 : m (Str.ofString "pos") = some (.int i tp)) (h : ∀ tp' t2 tk, Q (.ref s.heap.objs.size) { s with heap := s.heap.push { cls := .type "tuple", data := .seq #[.int i tp', .str ⟨([c] : List Nat).toArray⟩ t2] }, toks := tk }) :
    wpAny (model rw_sn0078_01.row.prog w) A (eval p.e2 (envX (Str.ofString "_iter_escaped_chars") sc Lg 21 (.ref 20) [])) Q E s := by
  have N : News E0 Lg s.heap [] := News.nil
  revert X; k_fill; intro X
  have h1 : escParts = some _ := rfl
  have e1 := hp.symm.trans h1
  have h2 : escSc = some _ := rfl
  have e2 := hsc.symm.trans h2
  clear hp hsc h1 h2
  injection e1 with e1
  injection e2 with e2
  subst e1 e2
  dsimp only
  k_steps
  all_goals exact h _ _ _
set_option maxHeartbeats 4000000 in
theorem ev_e3 {hb : Heap} {w : World} {A : Around} {Lg : Addr} {m : Str → Option Value} {s : Shared} {sc : Scope} {p : EscParts} {tp : Tok} {i : Int} {Q : Value → Shared → Prop} {E : Value → Shared → Prop} (X : (K0 w.params).In hb) (hp : escParts = some p) (hsc : escSc = some sc) (F : Fr E0 Lg s.heap m) (hm2 : m (Str.ofString "pos") = some (.int i tp)) (h : ∀ tp' t2 tk, Q (.ref s.heap.objs.size) { s with heap := s.heap.push { cls := .type "tuple", data := .seq #[.int i tp', .str ⟨([92] : List Nat).toArray⟩ t2] }, toks := tk }) :
    wpAny (model rw_sn0078_01.row.prog w) A (eval p.e3 (envX (Str.ofString "_iter_escaped_chars") sc Lg 21 (.ref 20) [])) Q E s := by
  have N : News E0 Lg s.heap [] := News.nil
  revert X; k_fill; intro X
  have h1 : escParts = some _ := rfl
  have e1 := hp.symm.trans h1
  have h2 : escSc = some _ := rfl
  have e2 := hsc.symm.trans h2
  clear hp hsc h1 h2
  injection e1 with e1
  injection e2 with e2
  subst e1 e2
  dsimp only
  k_steps
  all_goals (rw [bs_l]; exact h _ _ _)
set_option maxHeartbeats 4000000 in
theorem ex_a1 {hb : Heap} {w : World} {A : Around} {Lg : Addr} {m : Str → Option Value} {s : Shared} {sc : Scope} {p : EscParts} {Q : Flow → Shared → Prop} {E : Value → Shared → Prop} (X : (K0 w.params).In hb) (hp : escParts = some p) (hsc : escSc = some sc) (F : Fr E0 Lg s.heap m) (h : ∀ h' tk, h'.Ns Lg (fun y => if y = Str.ofString "escape" then some (.bool false) else m y) → Heap.SameBut Lg s.heap h' → Q .next { s with heap := h', toks := tk }) :
    wpAny (model rw_sn0078_01.row.prog w) A (exec p.a1 (envX (Str.ofString "_iter_escaped_chars") sc Lg 21 (.ref 20) [])) Q E s := by
  have N : News E0 Lg s.heap [] := News.nil
  revert X; k_fill; intro X
  have h1 : escParts = some _ := rfl
  have e1 := hp.symm.trans h1
  have h2 : escSc = some _ := rfl
  have e2 := hsc.symm.trans h2
  clear hp hsc h1 h2
  injection e1 with e1
  injection e2 with e2
  subst e1 e2
  dsimp only
  k_steps
  all_goals exact h _ _ (by assumption) (by assumption)
set_option maxHeartbeats 4000000 in
theorem ex_a2 {hb : Heap} {w : World} {A : Around} {Lg : Addr} {m : Str → Option Value} {s : Shared} {sc : Scope} {p : EscParts} {Q : Flow → Shared → Prop} {E : Value → Shared → Prop} (X : (K0 w.params).In hb) (hp : escParts = some p) (hsc : escSc = some sc) (F : Fr E0 Lg s.heap m) (h : ∀ h' tk, h'.Ns Lg (fun y => if y = Str.ofString "escape" then some (.bool true) else m y) → Heap.SameBut Lg s.heap h' → Q .next { s with heap := h', toks := tk }) :
    wpAny (model rw_sn0078_01.row.prog w) A (exec p.a2 (envX (Str.ofString "_iter_escaped_chars") sc Lg 21 (.ref 20) [])) Q E s := by
  have N : News E0 Lg s.heap [] := News.nil
  revert X; k_fill; intro X
  have h1 : escParts = some _ := rfl
  have e1 := hp.symm.trans h1
  have h2 : escSc = some _ := rfl
  have e2 := hsc.symm.trans h2
  clear hp hsc h1 h2
  injection e1 with e1
  injection e2 with e2
  subst e1 e2
  dsimp only
  k_steps
  all_goals exact h _ _ (by assumption) (by assumption)
set_option maxHeartbeats 4000000 in
theorem ex_h0 {hb : Heap} {w : World} {A : Around} {Lg : Addr} {m : Str → Option Value} {s : Shared} {sc : Scope} {p : EscParts} {Q : Flow → Shared → Prop} {E : Value → Shared → Prop} (X : (K0 w.params).In hb) (hp : escParts = some p) (hsc : escSc = some sc) (F : Fr E0 Lg s.heap m) (h : ∀ h' tk tp, h'.Ns Lg (fun y => if y = Str.ofString "pos" then some (.int 0 tp) else m y) → Heap.SameBut Lg s.heap h' → Q .next { s with heap := h', toks := tk }) :
    wpAny (model rw_sn0078_01.row.prog w) A (exec p.h0 (envX (Str.ofString "_iter_escaped_chars") sc Lg 21 (.ref 20) [])) Q E s := by
  have N : News E0 Lg s.heap [] := News.nil
  revert X; k_fill; intro X
  have h1 : escParts = some _ := rfl
  have e1 := hp.symm.trans h1
  have h2 : escSc = some _ := rfl
  have e2 := hsc.symm.trans h2
  clear hp hsc h1 h2
  injection e1 with e1
  injection e2 with e2
  subst e1 e2
  dsimp only
  k_steps
  all_goals exact h _ _ _ (by assumption) (by assumption)
set_option maxHeartbeats 4000000 in
theorem ex_h1 {hb : Heap} {w : World} {A : Around} {Lg : Addr} {m : Str → Option Value} {s : Shared} {sc : Scope} {p : EscParts} {Q : Flow → Shared → Prop} {E : Value → Shared → Prop} (X : (K0 w.params).In hb) (hp : escParts = some p) (hsc : escSc = some sc) (F : Fr E0 Lg s.heap m) (h : ∀ h' tk, h'.Ns Lg (fun y => if y = Str.ofString "escape" then some (.bool false) else m y) → Heap.SameBut Lg s.heap h' → Q .next { s with heap := h', toks := tk }) :
    wpAny (model rw_sn0078_01.row.prog w) A (exec p.h1 (envX (Str.ofString "_iter_escaped_chars") sc Lg 21 (.ref 20) [])) Q E s := by
  have N : News E0 Lg s.heap [] := News.nil
  revert X; k_fill; intro X
  have h1 : escParts = some _ := rfl
  have e1 := hp.symm.trans h1
  have h2 : escSc = some _ := rfl
  have e2 := hsc.symm.trans h2
  clear hp hsc h1 h2
  injection e1 with e1
  injection e2 with e2
  subst e1 e2
  dsimp only
  k_steps
  all_goals exact h _ _ (by assumption) (by assumption)
theorem rg_ConH2_5 : True := by
  (k_with "call type:enumerate" => (k_here; k_dflt (refine call_enumerate_str ?_); intro _ _ _ _ _))
  trivial
set_option maxHeartbeats 4000000 in
theorem ev_ie {hb : Heap} {w : World} {A : Around} {Lg : Addr} {m : Str → Option Value} {s : Shared} {sc : Scope} {p : EscParts} {x : Str} {t : Tok} {q : Program} {mean : ExcName → Option Value} {mg mb : Str → Option Value} {loose : List Str} {Q : Value → Shared → Prop} {E : Value → Shared → Prop} (X : (K0 w.params).In hb) (hp : escParts = some p) (hsc : escSc = some sc) (F : Fr E0 Lg s.heap m) (Fb : Fr hb Lg s.heap m) (T : Top q loose mean mg mb hb) (hm : m (Str.ofString "addr") = some (.str x t)) (h : ∀ h' tk, IsEnum h' (s.heap.objs.size + 1) s.heap.objs.size 0 .none → h'.IsStrIter s.heap.objs.size (strIterType x) x t 0 → h'.objs.size = s.heap.objs.size + 2 → (∀ b o, s.heap.get? b = some o → h'.get? b = some o) → Q (.ref (s.heap.objs.size + 1)) { s with heap := h', toks := tk }) :
    wpAny (model rw_sn0078_01.row.prog w) A (eval p.ie (envX (Str.ofString "_iter_escaped_chars") sc Lg 21 (.ref 20) [])) Q E s := by
  have N : News E0 Lg s.heap [] := News.nil
  revert X; k_fill; intro X
  have h1 : escParts = some _ := rfl
  have e1 := hp.symm.trans h1
  have h2 : escSc = some _ := rfl
  have e2 := hsc.symm.trans h2
  clear hp hsc h1 h2
  injection e1 with e1
  injection e2 with e2
  subst e1 e2
  have Nb : News hb Lg s.heap [] := News.nil
  dsimp only
  clear F N
  k_steps
  all_goals exact h _ _ (by assumption) (by assumption) (by assumption) (by assumption)
theorem rz_ConH4 : True := by k_with_none; trivial
theorem all2 {P : Addr → Prop} {a b : Addr} (h1 : P a) (h2 : P b) : ∀ x ∈ [a, b], P x := List.forall_mem_cons.mpr ⟨h1, List.forall_mem_cons.mpr ⟨h2, List.forall_mem_nil _⟩⟩
theorem all3 {P : Addr → Prop} {a b c : Addr} (h1 : P a) (h2 : P b) (h3 : P c) : ∀ x ∈ [a, b, c], P x := List.forall_mem_cons.mpr ⟨h1, all2 h2 h3⟩
theorem all4 {P : Addr → Prop} {a b c d : Addr} (h1 : P a) (h2 : P b) (h3 : P c) (h4 : P d) : ∀ x ∈ [a, b, c, d], P x := List.forall_mem_cons.mpr ⟨h1, all3 h2 h3 h4⟩
noncomputable abbrev genv (sc : Scope) (Lg : Addr) : Env := envX (Str.ofString "_iter_escaped_chars") sc Lg 21 (.ref 20) []
noncomputable abbrev Kf : Flow → Sem Fin := fun f => .pure (.done (.ret (match f with | .ret v => v | _ => .none)))
noncomputable abbrev Hf (env : Env) : Value → Sem Fin := fun e => (leaving env e).wrap (fun _ => .raise e) .raise id id
theorem frE {h : Heap} {L : Addr} {m : Str → Option Value} (n : h.Ns L m) : Fr E0 L h m := ⟨n, fun b o e => by simp [E0, Heap.get?] at e, Nat.zero_le _⟩
theorem GSince.refl (Lg G : Addr) (s : Shared) : GSince Lg G s s := ⟨s.heap, s.toks, rfl, fun _ _ _ _ e => e⟩
theorem X_last {X pre : List (Int × List Nat)} {x : Int × List Nat} {rest : List (Int × List Nat)} (e : X = pre ++ x :: rest) : X[X.length - 1 - rest.length]? = some x := by
  subst e
  have : (pre ++ x :: rest).length - 1 - rest.length = pre.length := by simp
  rw [this]; simp
section
variable {w : World} {A : Around} {hb : Heap} {Lg G : Addr} {s₀ s : Shared} {m : Str → Option Value} {sc : Scope} {X pre : List (Int × List Nat)} {i : Nat} {pv : Int} {tp : Tok} {tl bd : List Stmt}
theorem esc_tail {p : EscParts} {yp qp p3 : Pos} (hp : escParts = some p) (hsc : escSc = some sc) (Xb : (K0 w.params).In hb) (htl : tl = [.If p.t3 [.Expr (.Yield (some p.e3) yp) qp] [] p3]) (hco : sc.isCoroutine = false) (hin : interactive (genv sc Lg) = false) (b : Bool)
    (hn : s.heap.Ns Lg m) (hm : m (Str.ofString "escape") = some (.bool b)) (hm2 : m (Str.ofString "pos") = some (.int pv tp)) (hpv : b = true → pv = (i : Int) - 1) (hX : X = pre ++ escI i b []) (hs : GSince Lg G s₀ s) (hGo : ∃ o, s.heap.get? G = some o) :
    Seg (model rw_sn0078_01.row.prog w) A (escR Lg G) (escY Lg G X) (escI i b []).length s₀ (.func bd (genv sc Lg)) ((execs tl (genv sc Lg)).wrap Kf (Hf (genv sc Lg)) id id) [] s := by
  subst htl
  refine seg_execs_cons (seg_If (ev_t3 Xb hp hsc (frE hn) hm ?_))
  cases b with
  | false =>
    rw [if_neg Bool.false_ne_true]
    refine seg_execs_nil ?_
    exact seg_end (.ok (.ret .none)) ⟨rfl, rfl, hs⟩
  | true =>
    rw [if_pos rfl]
    refine seg_execs_cons (seg_Expr_Yield (n := 0) rfl rfl rfl (ev_e3 Xb hp hsc (frE hn) hm2 fun tp' t2 tk => ?_) hco hin)
    intro kap hk
    obtain ⟨oG, hoG⟩ := hGo
    refine ⟨⟨((i : Int) - 1, [92]), s.heap.objs.size, tp', t2, X_last (rest := []) hX, rfl, ?_, Heap.lt_size hoG⟩, hs.step fun b o _ _ e => Heap.get?_push_of_some _ e, [G], (fun b hb => by rw [List.mem_singleton.mp hb]; exact ⟨.inr (Nat.le_refl _), oG, Heap.get?_push_of_some _ hoG⟩), .head _, fun s'' hs'' => hk .none s'' ?_⟩
    · rw [hpv rfl]; exact ⟨_, Heap.get?_push_size _ rfl, rfl, _, rfl⟩
    · exact seg_end (.ok (.ret .none)) ⟨rfl, rfl, GSince.refl _ _ _⟩
theorem esc_loop {p : EscParts} {tpos : Pos} {tx : Nat} {px pc yp qp p3 y1 q1 p1 y2 q2 p2 lp : Pos} (hp : escParts = some p) (hsc : escSc = some sc) (Xb : (K0 w.params).In hb) (htl : tl = [.If p.t3 [.Expr (.Yield (some p.e3) yp) qp] [] p3]) (hco : sc.isCoroutine = false) (hin : interactive (genv sc Lg) = false)
    (hk1 : (genv sc Lg).kindOf (Str.ofString "pos") = some .local) (hk2 : (genv sc Lg).kindOf (Str.ofString "ch") = some .local) (hsk : sc.kind = .function)
    (hh : A.handled = none) {cps : List Nat} {e it : Addr} {St : Nat → Heap → Prop}
    (D : ∀ A' : Around, A'.handled = none → Draws rw_sn0078_01.row.prog w A' it [it] cps.length (fun i v => ∃ c u, cps[i]? = some c ∧ v = .str ⟨#[c]⟩ u) St)
    (hGL : G ≠ Lg) (hei : e ≠ it) (hLe : Lg ≠ e) (hLi : Lg ≠ it) (hGe : @LT.lt Nat _ G e) (hGi : @LT.lt Nat _ G it) (X : List (Int × List Nat)) :
    ∀ (k i : Nat) (esc : Bool) (s₀ s : Shared) (m : Str → Option Value) (pre : List (Int × List Nat)) (pv : Int) (tp : Tok), cps.length - i = k → i ≤ cps.length → ((∃ old, IsEnum s.heap e it i old) ∧ St i s.heap) → s.heap.Ns Lg m → m (Str.ofString "escape") = some (.bool esc) → m (Str.ofString "pos") = some (.int pv tp) → (esc = true → pv = (i : Int) - 1) → X = pre ++ escI i esc (cps.drop i) → GSince Lg G s₀ s → (∃ o, s.heap.get? G = some o) →
      Seg (model rw_sn0078_01.row.prog w) A (escR Lg G) (escY Lg G X) (escI i esc (cps.drop i)).length s₀ (.forLoop (.Tuple [.Name (Str.ofString "pos") px, .Name (Str.ofString "ch") pc] tx tpos) (.ref e) [.If p.t1 [.Expr (.Yield (some p.e1) y1) q1, p.a1] [.If p.t2 [p.a2] [.Expr (.Yield (some p.e2) y2) q2] p2] p1] [] (genv sc Lg))
        ((model rw_sn0078_01.row.prog w).den (.forLoop (.Tuple [.Name (Str.ofString "pos") px, .Name (Str.ofString "ch") pc] tx tpos) (.ref e) [.If p.t1 [.Expr (.Yield (some p.e1) y1) q1, p.a1] [.If p.t2 [p.a2] [.Expr (.Yield (some p.e2) y2) q2] p2] p1] [] (genv sc Lg)))
        [loopFrame (fun f => match f with | .next => (execs tl (genv sc Lg)).wrap Kf (Hf (genv sc Lg)) id id | f => Kf f) (Hf (genv sc Lg)) id id (genv sc Lg) (.func bd (genv sc Lg)) lp] s := by
  intro k
  induction k with
  | zero =>
    intro i esc s₀ s m pre pv tp hk hi hst hn hm hm2 hpv hX hs hGo
    have hin' : i = cps.length := by omega
    subst hin'
    refine seg_forLoop ?_
    have W := WalksT.enumerateD (D ((A.over (.forLoop (.Tuple [.Name (Str.ofString "pos") px, .Name (Str.ofString "ch") pc] tx tpos) (.ref e) [.If p.t1 [.Expr (.Yield (some p.e1) y1) q1, p.a1] [.If p.t2 [p.a2] [.Expr (.Yield (some p.e2) y2) q2] p2] p1] [] (genv sc Lg)) [loopFrame (fun f => match f with | .next => (execs tl (genv sc Lg)).wrap Kf (Hf (genv sc Lg)) id id | f => Kf f) (Hf (genv sc Lg)) id id (genv sc Lg) (.func bd (genv sc Lg)) lp]).in1) hh) e hei (by simpa using hei) (by simp)
    refine W.done _ _ _ hst fun h' tk' hkp => ?_
    have hG : ∃ o, h'.get? G = some o := by
      obtain ⟨oG, hoG⟩ := hGo
      exact ⟨oG, hkp G oG (by simp only [List.mem_cons, List.not_mem_nil, or_false, not_or]; exact ⟨Nat.ne_of_lt hGe, Nat.ne_of_lt hGi⟩) hoG⟩
    have hdr : cps.drop cps.length = [] := List.drop_length
    rw [hdr] at hX ⊢
    show Seg _ A _ _ _ s₀ _ ((execs tl (genv sc Lg)).wrap Kf (Hf (genv sc Lg)) id id) [] _
    exact esc_tail hp hsc Xb htl hco hin esc (hn.at' fun o x => hkp Lg o (by simp [hLe, hLi]) x) hm hm2 hpv hX (hs.step fun b o hb hg x => hkp b o (by
      simp only [List.mem_cons, List.not_mem_nil, or_false, not_or]
      exact ⟨Nat.ne_of_lt (Nat.lt_of_le_of_lt hg hGe), Nat.ne_of_lt (Nat.lt_of_le_of_lt hg hGi)⟩) x) hG
  | succ k ih =>
    intro i esc s₀ s m pre pv tp hk hi hst hn hm hm2 hpv hX hs hGo
    have hlt : i < cps.length := by omega
    refine seg_forLoop ?_
    have W := WalksT.enumerateD (D ((A.over (.forLoop (.Tuple [.Name (Str.ofString "pos") px, .Name (Str.ofString "ch") pc] tx tpos) (.ref e) [.If p.t1 [.Expr (.Yield (some p.e1) y1) q1, p.a1] [.If p.t2 [p.a2] [.Expr (.Yield (some p.e2) y2) q2] p2] p1] [] (genv sc Lg)) [loopFrame (fun f => match f with | .next => (execs tl (genv sc Lg)).wrap Kf (Hf (genv sc Lg)) id id | f => Kf f) (Hf (genv sc Lg)) id id (genv sc Lg) (.func bd (genv sc Lg)) lp]).in1) hh) e hei (by simpa using hei) (by simp)
    refine W.item i _ _ _ hlt hst fun T vals h₁ tk₁ hPt _ hT hMid hk₁ => ?_
    obtain ⟨t, v, ⟨c, u, hc, rfl⟩, rfl⟩ := hPt
    refine W.go _ tx tpos i T _ _ _ hMid fun h₂ hst₂ hk₂ => ?_
    have ht₂ : h₂.IsTuple T #[.int i t, .str ⟨#[c]⟩ u] := hT.at fun o x => hk₂ T o (W.apart i T h₁ hMid) x
    refine wpAny_assign_Tuple hh ht₂ rfl rfl fun h₃ hx₃ => ?_
    replace hx₃ : Heap.ExtBut h₂.objs.size h₂ h₃ := hx₃
    have up₃ : ∀ b o, h₂.get? b = some o → h₃.get? b = some o := fun b o x => hx₃ b o (Nat.ne_of_lt (Heap.lt_size x)) x
    have nw : Lg ∉ [e, it] := by simp [hLe, hLi]
    have hn₃ : h₃.Ns Lg m := hn.at' fun o x => up₃ _ _ (hk₂ _ _ nw (hk₁ _ _ nw x))
    have hp' : ((genv sc Lg).scope.kind == .class || ((genv sc Lg).scope.kind == .module && (genv sc Lg).locals != (genv sc Lg).globals)) = false := by
      show (sc.kind == .class || (sc.kind == .module && _)) = false
      rw [hsk]; rfl
    show wpAny _ _ (do holding [.str ⟨#[c]⟩ u] (assign (.Name (Str.ofString "pos") px) (genv sc Lg) (.int i t)); do holding [] (assign (.Name (Str.ofString "ch") pc) (genv sc Lg) (.str ⟨#[c]⟩ u)); pure ()) _ _ _
    refine wpAny_bind (wpAny_holding (wpAny_assign_Name (wpAny_storeName_local hk1 hn₃ (fun h₄ hn₄ hs₄ => ?_) hp')))
    replace hs₄ : Heap.SameBut Lg h₃ h₄ := hs₄
    replace hn₄ : h₄.Ns Lg _ := hn₄
    refine wpAny_bind (wpAny_holding (wpAny_assign_Name (wpAny_storeName_local hk2 hn₄ (fun h₅ hn₅ hs₅ => wpAny_pure ?_) hp')))
    replace hs₅ : Heap.SameBut Lg h₄ h₅ := hs₅
    replace hn₅ : h₅.Ns Lg _ := hn₅
    have keep₅ : ∀ b o, b ≠ Lg → b ∉ [e, it] → s.heap.get? b = some o → h₅.get? b = some o := fun b o hb hw x => hs₅.extBut b o hb (hs₄.extBut b o hb (up₃ b o (hk₂ b o hw (hk₁ b o hw x))))
    have hst₅ : (∃ old, IsEnum h₅ e it ((i + 1 : Nat) : Int) old) ∧ St (i + 1) h₅ := W.frame _ _ _ hst₂ fun b hb o x => by
      have hbl : b ≠ Lg := by
        simp only [List.mem_cons, List.not_mem_nil, or_false] at hb
        rcases hb with h | h
        · rw [h]; exact hLe.symm
        · rw [h]; exact hLi.symm
      exact hs₅.extBut b o hbl (hs₄.extBut b o hbl (up₃ b o x))
    have hoff : ∀ b : Addr, @LE.le Nat _ b G → b ∉ [e, it] := fun b hg => by
      simp only [List.mem_cons, List.not_mem_nil, or_false, not_or]
      exact ⟨Nat.ne_of_lt (Nat.lt_of_le_of_lt hg hGe), Nat.ne_of_lt (Nat.lt_of_le_of_lt hg hGi)⟩
    have hG₅ : @LT.lt Nat _ G h₅.objs.size := by
      obtain ⟨⟨old, he⟩, _⟩ := hst₅
      exact Nat.lt_trans hGe (Heap.lt_size he)
    have hdr : cps.drop i = c :: cps.drop (i + 1) := drop_at hc
    have since₅ : ∀ tk, GSince Lg G s₀ { s with heap := h₅, toks := tk } := fun tk => hs.step fun b o hb hg x => keep₅ b o hb (hoff b hg) x
    have m5c : (fun z => if z = Str.ofString "ch" then some (Value.str ⟨#[c]⟩ u) else if z = Str.ofString "pos" then some (Value.int (i : Int) t) else m z) (Str.ofString "ch") = some (Value.str ⟨#[c]⟩ u) := if_pos rfl
    have m5p : (fun z => if z = Str.ofString "ch" then some (Value.str ⟨#[c]⟩ u) else if z = Str.ofString "pos" then some (Value.int (i : Int) t) else m z) (Str.ofString "pos") = some (Value.int (i : Int) t) := (if_neg (by decide)).trans (if_pos rfl)
    have m5e : (fun z => if z = Str.ofString "ch" then some (Value.str ⟨#[c]⟩ u) else if z = Str.ofString "pos" then some (Value.int (i : Int) t) else m z) (Str.ofString "escape") = some (Value.bool esc) := (if_neg (by decide)).trans ((if_neg (by decide)).trans hm)
    refine seg_execs_cons (seg_If (ev_t1 Xb hp hsc (frE hn₅) m5e ?_))
    have again : ∀ (esc' : Bool) (s₁ s₂ : Shared) (pre' : List (Int × List Nat)) (m' : Str → Option Value) (pv' : Int), (∀ b ∈ [G, e, it], ∀ o, h₅.get? b = some o → s₂.heap.get? b = some o) → s₂.heap.Ns Lg m' → m' (Str.ofString "escape") = some (.bool esc') → m' (Str.ofString "pos") = some (.int pv' t) → (esc' = true → pv' = ((i + 1 : Nat) : Int) - 1) → X = pre' ++ escI (i + 1) esc' (cps.drop (i + 1)) → GSince Lg G s₁ s₂ →
        Seg (model rw_sn0078_01.row.prog w) A (escR Lg G) (escY Lg G X) (escI (i + 1) esc' (cps.drop (i + 1))).length s₁ (.forLoop (.Tuple [.Name (Str.ofString "pos") px, .Name (Str.ofString "ch") pc] tx tpos) (.ref e) [.If p.t1 [.Expr (.Yield (some p.e1) y1) q1, p.a1] [.If p.t2 [p.a2] [.Expr (.Yield (some p.e2) y2) q2] p2] p1] [] (genv sc Lg)) (.pure (.again (.forLoop (.Tuple [.Name (Str.ofString "pos") px, .Name (Str.ofString "ch") pc] tx tpos) (.ref e) [.If p.t1 [.Expr (.Yield (some p.e1) y1) q1, p.a1] [.If p.t2 [p.a2] [.Expr (.Yield (some p.e2) y2) q2] p2] p1] [] (genv sc Lg))))
          [loopFrame (fun f => match f with | .next => (execs tl (genv sc Lg)).wrap Kf (Hf (genv sc Lg)) id id | f => Kf f) (Hf (genv sc Lg)) id id (genv sc Lg) (.func bd (genv sc Lg)) lp] s₂ := by
      intro esc' s₁ s₂ pre' m' pv' hk' hn' hm' hm2' hpv' hX' hs'
      refine seg_again rfl (ih (i + 1) esc' s₁ s₂ m' pre' pv' t (by omega) hlt ?_ hn' hm' hm2' hpv' hX' hs' ?_)
      rotate_left 1
      · obtain ⟨oG, hoG⟩ := hGo
        exact ⟨oG, hk' G (.head _) oG (keep₅ G oG hGL (hoff G (Nat.le_refl _)) hoG)⟩
      exact W.frame _ _ _ hst₅ (all2 (P := fun b => ∀ o, h₅.get? b = some o → s₂.heap.get? b = some o) (hk' _ (.tail _ (.head _))) (hk' _ (.tail _ (.tail _ (.head _)))))
    have hne : ∀ b ∈ [G, e, it], b ≠ Lg := all3 (P := fun b => b ≠ Lg) hGL hLe.symm hLi.symm
    have hpl : ∀ (ob : Obj), ∀ b ∈ [Lg, G, e, it], (b = Lg ∨ @LE.le Nat _ G b) ∧ ∃ o, (h₅.push ob).get? b = some o := fun ob => by
      obtain ⟨oG, hoG⟩ := hGo
      obtain ⟨oL, _, _, hoL, _⟩ := id hn₅
      obtain ⟨⟨old, he⟩, hi5⟩ := id hst₅
      obtain ⟨oi, hoi⟩ := (D A hh).live _ _ hi5
      exact all4 (P := fun b => (b = Lg ∨ @LE.le Nat _ G b) ∧ ∃ o, (h₅.push ob).get? b = some o) ⟨.inl rfl, _, Heap.get?_push_of_some _ hoL⟩ ⟨.inr (Nat.le_refl _), oG, Heap.get?_push_of_some _ (keep₅ _ oG hGL (hoff _ (Nat.le_refl _)) hoG)⟩ ⟨.inr (Nat.le_of_lt hGe), _, Heap.get?_push_of_some _ he⟩ ⟨.inr (Nat.le_of_lt hGi), _, Heap.get?_push_of_some _ hoi⟩
    rw [hdr] at hX ⊢
    cases esc with
    | true =>
      rw [if_pos rfl]
      have eX : escI i true (c :: cps.drop (i + 1)) = ((i : Int), [92] ++ [c]) :: escI (i + 1) false (cps.drop (i + 1)) := rfl
      rw [eX] at hX ⊢
      refine seg_execs_cons (seg_Expr_Yield (n := (escI (i + 1) false (cps.drop (i + 1))).length) rfl rfl rfl (ev_e1 Xb hp hsc (frE hn₅) m5c m5p fun tp' t2 tk => ?_) hco hin)
      intro kap hkap
      refine ⟨⟨((i : Int), [92] ++ [c]), h₅.objs.size, tp', t2, X_last hX, rfl, ⟨_, Heap.get?_push_size _ rfl, rfl, _, rfl⟩, hG₅⟩, (since₅ 0).step fun b o _ _ x => Heap.get?_push_of_some _ x, [Lg, G, e, it], hpl _, .tail _ (.head _), fun s'' hs'' => hkap .none s'' ?_⟩
      have hn6 : s''.heap.Ns Lg _ := hn₅.at' fun o x => hs'' Lg (.head _) o (Heap.get?_push_of_some _ x)
      refine seg_execs_cons (seg_wrap (ex_a1 Xb hp hsc (frE hn6) fun h' tk' ns sb => ?_))
      exact again false s'' _ (pre ++ [((i : Int), [92] ++ [c])]) _ i (fun b hb o x => sb.extBut b o (hne b hb) (hs'' b (.tail _ hb) o (Heap.get?_push_of_some _ x))) ns (if_pos rfl) ((if_neg (by decide)).trans m5p) (fun h => by cases h) (by rw [hX]; simp) ((GSince.refl Lg G s'').step fun b o hb _ x => sb.extBut b o hb x)
    | false =>
      rw [if_neg Bool.false_ne_true]
      refine seg_execs_cons (seg_If (ev_t2 Xb hp hsc (frE hn₅) m5c fun tk => ?_))
      cases hc92 : c == 92 with
      | true =>
        rw [if_pos rfl]
        have eX : escI i false (c :: cps.drop (i + 1)) = escI (i + 1) true (cps.drop (i + 1)) := if_pos (by simpa using hc92)
        rw [eX] at hX ⊢
        refine seg_execs_cons (seg_wrap (ex_a2 Xb hp hsc (s := { s with heap := h₅, toks := tk }) (frE hn₅) fun h' tk' ns sb => ?_))
        exact again true s₀ _ pre _ i (fun b hb o x => sb.extBut b o (hne b hb) x) ns (if_pos rfl) ((if_neg (by decide)).trans m5p) (fun _ => by omega) hX ((since₅ tk).step fun b o hb _ x => sb.extBut b o hb x)
      | false =>
        rw [if_neg Bool.false_ne_true]
        have eX : escI i false (c :: cps.drop (i + 1)) = ((i : Int), [c]) :: escI (i + 1) false (cps.drop (i + 1)) := if_neg (by simpa using hc92)
        rw [eX] at hX ⊢
        refine seg_execs_cons (seg_Expr_Yield (n := (escI (i + 1) false (cps.drop (i + 1))).length) rfl rfl rfl (ev_e2 Xb hp hsc (s := { s with heap := h₅, toks := tk }) (frE hn₅) m5c m5p fun tp' t2 tk => ?_) hco hin)
        intro kap hkap
        refine ⟨⟨((i : Int), [c]), h₅.objs.size, tp', t2, X_last hX, rfl, ⟨_, Heap.get?_push_size _ rfl, rfl, _, rfl⟩, hG₅⟩, (since₅ 0).step fun b o _ _ x => Heap.get?_push_of_some _ x, [Lg, G, e, it], hpl _, .tail _ (.head _), fun s'' hs'' => hkap .none s'' ?_⟩
        have hn6 : s''.heap.Ns Lg _ := hn₅.at' fun o x => hs'' Lg (.head _) o (Heap.get?_push_of_some _ x)
        exact again false s'' s'' (pre ++ [((i : Int), [c])]) _ i (fun b hb o x => hs'' b (.tail _ hb) o (Heap.get?_push_of_some _ x)) hn6 m5e m5p (fun h => by cases h) (by rw [hX]; simp) (GSince.refl Lg G s'')
theorem str_draws {prog : Program} (cps : List Nat) (t : Tok) (it : Addr) (A' : Around) (hA : A'.handled = none) : Draws prog w A' it [it] cps.length (fun i v => ∃ c u, cps[i]? = some c ∧ v = .str ⟨#[c]⟩ u) (fun i h => h.IsStrIter it (strIterType ⟨cps.toArray⟩) ⟨cps.toArray⟩ t i) := by
  have e1 : (⟨cps.toArray⟩ : Str).cps.size = cps.length := by simp
  have e2 : ∀ i : Nat, (⟨cps.toArray⟩ : Str).cps[i]? = cps[i]? := fun i => by simp
  have key : ∀ T, T = strIterType ⟨cps.toArray⟩ → Draws prog w A' it [it] (⟨cps.toArray⟩ : Str).cps.size (fun i v => ∃ c u, (⟨cps.toArray⟩ : Str).cps[i]? = some c ∧ v = .str ⟨#[c]⟩ u) (fun i h => h.IsStrIter it T ⟨cps.toArray⟩ t i) := by
    intro T hT
    unfold strIterType at hT
    split at hT
    · subst hT; exact Draws.strAscii hA it _ t
    · subst hT; exact Draws.strWide hA it _ t
  have := key _ rfl
  rw [e1] at this
  simpa only [e2] using this
theorem esc_fresh {p : EscParts} {tpos : Pos} {tx : Nat} {px pc yp qp p3 y1 q1 p1 y2 q2 p2 fp : Pos} {cps : List Nat} {ta : Tok} {q : Program} {mean : ExcName → Option Value} {mg mb : Str → Option Value} {loose : List Str} (hp : escParts = some p) (hsc : escSc = some sc) (Xb : (K0 w.params).In hb) (T : Top q loose mean mg mb hb) (hco : sc.isCoroutine = false) (hin : interactive (genv sc Lg) = false)
    (hk1 : (genv sc Lg).kindOf (Str.ofString "pos") = some .local) (hk2 : (genv sc Lg).kindOf (Str.ofString "ch") = some .local) (hsk : sc.kind = .function) (hfs : ∀ x, foldedSetIterable p.ie (genv sc Lg) x = pure x)
    (hh : A.handled = none) (Fb : Fr hb Lg s.heap m) (hm : m (Str.ofString "addr") = some (.str ⟨cps.toArray⟩ ta)) (hGo : ∃ o, s.heap.get? G = some o) (hLG : @LT.lt Nat _ Lg G) :
    Seg (model rw_sn0078_01.row.prog w) A (escR Lg G) (escY Lg G (escI 0 false cps)) (escI 0 false cps).length s
      (.func [p.h0, p.h1, .For (.Tuple [.Name (Str.ofString "pos") px, .Name (Str.ofString "ch") pc] tx tpos) p.ie [.If p.t1 [.Expr (.Yield (some p.e1) y1) q1, p.a1] [.If p.t2 [p.a2] [.Expr (.Yield (some p.e2) y2) q2] p2] p1] [] fp, .If p.t3 [.Expr (.Yield (some p.e3) yp) qp] [] p3] (genv sc Lg))
      ((model rw_sn0078_01.row.prog w).den (.func [p.h0, p.h1, .For (.Tuple [.Name (Str.ofString "pos") px, .Name (Str.ofString "ch") pc] tx tpos) p.ie [.If p.t1 [.Expr (.Yield (some p.e1) y1) q1, p.a1] [.If p.t2 [p.a2] [.Expr (.Yield (some p.e2) y2) q2] p2] p1] [] fp, .If p.t3 [.Expr (.Yield (some p.e3) yp) qp] [] p3] (genv sc Lg))) [] s := by
  refine seg_func ?_
  refine seg_execs_cons (seg_wrap (ex_h0 Xb hp hsc (frE Fb.ns) fun h₁ tk₁ tp₁ ns₁ sb₁ => ?_))
  refine seg_execs_cons (seg_wrap (ex_h1 Xb hp hsc (s := { s with heap := h₁, toks := tk₁ }) (frE ns₁) fun h₂ tk₂ ns₂ sb₂ => ?_))
  have F₂ : Fr hb Lg h₂ _ := (Fb.set ns₁ sb₁).set ns₂ sb₂
  refine seg_execs_cons (seg_For (ev_ie Xb hp hsc (s := { s with heap := h₂, toks := tk₂ }) (frE ns₂) F₂ T ((if_neg (by decide)).trans ((if_neg (by decide)).trans hm)) fun h₃ tk₃ he hi hz hg => ?_) hfs)
  refine wpAny_pyIter_enum he fun lp => ?_
  have k₃ : ∀ b o, b ≠ Lg → s.heap.get? b = some o → h₃.get? b = some o := fun b o hb x => hg b o (sb₂.extBut b o hb (sb₁.extBut b o hb x))
  obtain ⟨oG, hoG⟩ := hGo
  have hGL : G ≠ Lg := Nat.ne_of_gt hLG
  have hG₂ : h₂.get? G = some oG := sb₂.extBut _ _ hGL (sb₁.extBut _ _ hGL hoG)
  have hGs : @LT.lt Nat _ G h₂.objs.size := Heap.lt_size hG₂
  have hLs : @LT.lt Nat _ Lg h₂.objs.size := Nat.lt_trans hLG hGs
  refine esc_loop hp hsc Xb rfl hco hin hk1 hk2 hsk hh (str_draws cps ta _) hGL (Nat.succ_ne_self _) (Nat.ne_of_lt (Nat.lt_succ_of_lt hLs)) (Nat.ne_of_lt hLs) (Nat.lt_succ_of_lt hGs) hGs _ cps.length 0 false s _ _ [] 0 tp₁ rfl (Nat.zero_le _) ⟨⟨_, he⟩, hi⟩ (ns₂.keeps hg) ?_ ?_ (fun h => by cases h) rfl ⟨h₃, tk₃, rfl, fun b o hb _ x => k₃ b o hb x⟩ ⟨oG, hg _ _ hG₂⟩
  · exact if_pos rfl
  · exact (if_neg (by decide)).trans (if_pos rfl)
end
noncomputable def GenAt (w : World) (A : Around) (hb : Heap) (Lg G : Addr) (X rem : List (Int × List Nat)) (pl : List Addr) (s : Shared) : Prop :=
  ∃ g gs pre, s.heap.IsGen G g ∧ s.gens[g]? = some gs ∧ X = pre ++ rem ∧ @LT.lt Nat _ Lg G ∧ (∀ b ∈ pl, (b = Lg ∨ @LE.le Nat _ G b) ∧ ∃ o, s.heap.get? b = some o) ∧ G ∈ pl ∧
    ∀ s', KeepL pl s s' → (∀ b o, hb.get? b = some o → s'.heap.get? b = some o) → gs.Goes (model rw_sn0078_01.row.prog w) A.in1 (escR Lg G) (escY Lg G X) rem.length (.send .none) s'
theorem GenAt.keep {w : World} {A : Around} {hb : Heap} {Lg G : Addr} {X rem : List (Int × List Nat)} {pl : List Addr} {s : Shared} (x : GenAt w A hb Lg G X rem pl s) {h' : Heap} {tk : Nat} (hk : ∀ b ∈ pl, ∀ o, s.heap.get? b = some o → h'.get? b = some o) : GenAt w A hb Lg G X rem pl { s with heap := h', toks := tk } := by
  obtain ⟨g, gs, pre, ⟨o, nm, qn, ho, r⟩, hgs, hX, hL, hpl, hGp, hgo⟩ := x
  exact ⟨g, gs, pre, ⟨o, nm, qn, hk _ hGp _ ho, r⟩, hgs, hX, hL, (fun b hb => ⟨(hpl b hb).1, let ⟨o, e⟩ := (hpl b hb).2; ⟨o, hk b hb o e⟩⟩), hGp, fun s' hs' hb' => hgo s' (fun b hb o e => hs' b hb o (hk b hb o e)) hb'⟩
theorem setGen_gens {s : Shared} {g : Nat} {gs gs' : GenState} (h : s.gens[g]? = some gs) : (s.setGen g gs').gens[g]? = some gs' := by
  unfold Shared.setGen
  obtain ⟨hl, _⟩ := Array.getElem?_eq_some_iff.mp h
  simp [hl]
section
variable {w : World} {A : Around} {hb : Heap} {Lg G : Addr} {X rem : List (Int × List Nat)} {pl : List Addr} {s : Shared} {E : Value → Shared → Prop} {Q : Option Value → Shared → Prop}
theorem gen_next {x : Int × List Nat} (hh : A.handled = none) (hl : s.heap.NoLimit) (hroom : A.depth < recursionLimit) (hbs : ∀ b o, hb.get? b = some o → s.heap.get? b = some o) (g : GenAt w A hb Lg G X (x :: rem) pl s)
    (h : ∀ T a b pl' h' gens' tk, h'.IsTuple T #[.int x.1 a, .str ⟨x.2.toArray⟩ b] → @LT.lt Nat _ G T → (∀ b o, b ≠ Lg → @LE.le Nat _ b G → s.heap.get? b = some o → h'.get? b = some o) → GenAt w A hb Lg G X rem pl' { s with heap := h', gens := gens', toks := tk } → Q (some (.ref T)) { s with heap := h', gens := gens', toks := tk }) :
    wpAny (model rw_sn0078_01.row.prog w) A (pyNext (.ref G)) Q E s := by
  obtain ⟨g, gs, pre, hg, hgs, hX, hL, _, _, hgo⟩ := g
  refine wpAny_pyNext_gen (P := fun n s₀ s₁ => n = 0 ∧ GSince Lg G s₀ s₁) hh hl hroom hg hgs (hgo (s.setGen g .running) (fun _ _ _ e => e) hbs) ?_ ?_
  · rintro v s₁ gs' ⟨⟨x', T, a, b, hx', rfl, hT, hGT⟩, ⟨h', tk, rfl, hk⟩, pl', hpl', hGp', hkap⟩
    have e : X[X.length - 1 - ((x :: rem).length - 1)]? = some x := X_last hX
    rw [e] at hx'
    cases hx'
    refine h T a b pl' h' _ tk hT hGT hk ⟨g, gs', pre ++ [x], ?_, setGen_gens (setGen_gens hgs), by rw [hX]; simp, hL, hpl', hGp', fun s' hs' _ => ?_⟩
    · obtain ⟨o, nm, qn, ho, r⟩ := hg
      exact ⟨o, nm, qn, hk _ _ (Nat.ne_of_gt hL) (Nat.le_refl _) ho, r⟩
    · exact hkap s' hs'
  · rintro s₁ ⟨h0, _⟩
    simp at h0
theorem gen_end (hh : A.handled = none) (hl : s.heap.NoLimit) (hroom : A.depth < recursionLimit) (hbs : ∀ b o, hb.get? b = some o → s.heap.get? b = some o) (g : GenAt w A hb Lg G X [] pl s)
    (h : ∀ h' gens' tk, (∀ b o, b ≠ Lg → @LE.le Nat _ b G → s.heap.get? b = some o → h'.get? b = some o) → Q none { s with heap := h', gens := gens', toks := tk }) :
    wpAny (model rw_sn0078_01.row.prog w) A (pyNext (.ref G)) Q E s := by
  obtain ⟨g, gs, pre, hg, hgs, hX, hL, _, _, hgo⟩ := g
  refine wpAny_pyNext_gen (P := fun n s₀ s₁ => n = 0 ∧ GSince Lg G s₀ s₁) hh hl hroom hg hgs (hgo (s.setGen g .running) (fun _ _ _ e => e) hbs) ?_ ?_
  · rintro v s₁ gs' ⟨_, _, _, _, _, hkap⟩
    exact (hkap s₁ fun _ _ _ e => e).elim
  · rintro s₁ ⟨_, ⟨h', tk, rfl, hk⟩⟩ h'' hk'
    exact h h'' _ tk fun b o hb hg e => hk' b o (hk b o hb hg e)
end
noncomputable abbrev genObj (g : Nat) (t u : Tok) : Obj := { cls := .type "generator", data := .fields #[.int g 0, .str (Str.ofString "_iter_escaped_chars") t, .str (Str.ofString "_iter_escaped_chars") u] }
theorem gens_push {a : Array GenState} {x : GenState} : (a.push x)[a.size]? = some x := by simp
theorem gen_call {w : World} {A : Around} {q : Program} {mean : ExcName → Option Value} {mg mb : Str → Option Value} {loose : List Str} {h₀ : Heap} {L : Addr} {m : Str → Option Value} {s : Shared} {news : List (Addr × Obj)} {R : Result → Shared → Prop} {cps : List Nat} {t : Tok}
    (F : Fr h₀ L s.heap m) (N : News h₀ L s.heap news) (X : (K0 w.params).In h₀) (T : Top q loose mean mg mb h₀) (hroom : A.depth < recursionLimit)
    (h : ∀ (G Lg : Addr) (o : Obj) h' gens' tk, Fr h₀ L h' m → News h₀ L h' ((G, o) :: news) → (∀ p ∈ news, p.1 < Lg) → @LT.lt Nat _ L Lg → @LT.lt Nat _ Lg G → (∀ A' : Around, A'.handled = none → GenAt w A' h₀ Lg G (escI 0 false cps) (escI 0 false cps) [Lg, G] { s with heap := h', gens := gens', toks := tk }) → R (.ok (.ret (.ref G))) { s with heap := h', gens := gens', toks := tk }) :
    codeAny (model rw_sn0078_01.row.prog w) A (.call (.ref 21) ⟨[.str ⟨cps.toArray⟩ t], []⟩) R s := by
  have ho : (K0 w.params).lookup 21 = some _ := rfl
  have XI := X.keeps F.keep
  refine codeAny_call_generator hroom (XI _ _ ho) (fd := fnOf _ _ _ _ _ _ _ _ _ _ _ _) rfl rfl rfl rfl (codeRec_of XI (by rfl)) ?_
  refine (BindsTo.of_eq (binds := [(Str.ofString "addr", .str ⟨cps.toArray⟩ t)]) rfl) _ _ _ _ ?_
  refine wpAny_newFunctionEnv (by decide) (locs rfl) (fun h₁ ns₁ sb₁ => ?_) rfl
  have hz : h₁.objs.size = s.heap.objs.size + 1 := by
    have := sb₁.1
    rw [Heap.size_push] at this
    exact this
  have hk₁ : ∀ b o, s.heap.get? b = some o → h₁.get? b = some o := fun b o e => sb₁.extBut b o (Nat.ne_of_lt (Heap.lt_size e)) (Heap.get?_push_of_some _ e)
  have hLs : @LT.lt Nat _ L s.heap.objs.size := F.ns.lt
  have hp : escParts = some _ := rfl
  have hsc : escSc = some _ := rfl
  refine ⟨(T.nolimit.keeps F.keep).keeps hk₁, ?_⟩
  have F₁ := F.keeps hk₁
  refine h h₁.objs.size s.heap.objs.size _ _ _ _ (F₁.push _) (News.push F₁ (N.grown hk₁) _) (fun p hp => Heap.lt_size (N p hp).1) hLs (by rw [hz]; exact Nat.lt_succ_self _) fun A' hA' => ?_
  refine ⟨s.gens.size, .fresh _, [], ⟨_, _, _, Heap.get?_push_size _ rfl, rfl, rfl, rfl⟩, gens_push, rfl, by rw [hz]; exact Nat.lt_succ_self _, (fun b hb => ?_), .tail _ (.head _), fun s' hs' hb' => ⟨rfl, ?_⟩⟩
  · obtain ⟨oL, _, _, hoL, _⟩ := id ns₁
    simp only [List.mem_cons, List.not_mem_nil, or_false] at hb
    rcases hb with rfl | rfl
    · exact ⟨.inl rfl, oL, Heap.get?_push_of_some _ hoL⟩
    · exact ⟨.inr (Nat.le_refl _), _, Heap.get?_push_size _ rfl⟩
  have hns : s'.heap.Ns s.heap.objs.size _ := ns₁.at' fun o e => hs' _ (.head _) o (Heap.get?_push_of_some _ e)
  refine esc_fresh hp hsc X T rfl rfl rfl rfl rfl (fun _ => rfl) hA' ⟨hns, hb', Nat.le_of_lt (Nat.lt_of_le_of_lt F.above hLs)⟩ rfl ⟨_, hs' h₁.objs.size (.tail _ (.head _)) _ (Heap.get?_push_size _ rfl)⟩ (by rw [hz]; exact Nat.lt_succ_self _)
theorem owned_gen {prog : Program} {w : World} {A : Around} {E : Value → Shared → Prop} {s : Shared} {G T : Addr} {g : Nat} {elts : List PySem.Expr} {k : Nat} {pos : Pos} {Q : Unit → Shared → Prop} (hg : s.heap.IsGen G g) (h : Q () s) :
    wpAny (model prog w) A (letOwnedTupleGo (.Tuple elts k pos) (.ref G) (.ref T)) Q E s := by
  obtain ⟨o, nm, qn, ho, hc, hd, _⟩ := hg
  unfold letOwnedTupleGo
  refine wpAny_bind (wpAny_load ho ?_)
  rw [hc, hd]
  show wpAny _ _ (if _ then _ else _) _ _ _
  rw [if_neg (by simp)]
  exact wpAny_pure h
noncomputable def GenTurn (h₀ : Heap) (L : Addr) (J : (Str → Option Value) → List (Addr × Obj) → Prop) (pp : List (Addr × Obj)) (gs : Array GenState) (s : Shared) (R : Result → Shared → Prop) (f : Flow) (s₃ : Shared) : Prop :=
  match f with
  | .next | .cont => ∃ h' tk' m' nx', s₃ = { s with heap := h', gens := gs, toks := tk' } ∧ Fr h₀ L h' m' ∧ News h₀ L h' (nx' ++ pp) ∧ J m' nx'
  | .brk => R (.ok .next) s₃
  | .ret v => R (.ok (.ret v)) s₃
structure GenQ (h₀ : Heap) (L : Addr) (J : (Str → Option Value) → List (Addr × Obj) → Prop) (pp : List (Addr × Obj)) (gs : Array GenState) (s : Shared) (R : Result → Shared → Prop) (Q : Flow → Shared → Prop) : Prop where
  next : ∀ h' tk' m' nx', Fr h₀ L h' m' → News h₀ L h' (nx' ++ pp) → J m' nx' → Q .next { s with heap := h', gens := gs, toks := tk' }
  cont : ∀ h' tk' m' nx', Fr h₀ L h' m' → News h₀ L h' (nx' ++ pp) → J m' nx' → Q .cont { s with heap := h', gens := gs, toks := tk' }
  brk : ∀ s₃, R (.ok .next) s₃ → Q .brk s₃
  ret : ∀ v s₃, R (.ok (.ret v)) s₃ → Q (.ret v) s₃
theorem GenQ.self {h₀ : Heap} {L : Addr} {J : (Str → Option Value) → List (Addr × Obj) → Prop} {pp : List (Addr × Obj)} {gs : Array GenState} {s : Shared} {R : Result → Shared → Prop} : GenQ h₀ L J pp gs s R (GenTurn h₀ L J pp gs s R) :=
  ⟨fun _ _ _ _ F N j => ⟨_, _, _, _, rfl, F, N, j⟩, fun _ _ _ _ F N j => ⟨_, _, _, _, rfl, F, N, j⟩, fun _ h => h, fun _ _ h => h⟩
inductive GenInv (w : World) (A : Around) (h₀ : Heap) (L Lg G : Addr) (X : List (Int × List Nat)) (J : List (Int × List Nat) → (Str → Option Value) → List (Addr × Obj) → Prop) (s : Shared) (k : Nat) (s' : Shared) : Prop
  | mk (rem : List (Int × List Nat)) (pl : List Addr) (m : Str → Option Value) (nx : List (Addr × Obj)) (h : Heap) (gs : Array GenState) (tk : Nat) : k = rem.length → s' = { s with heap := h, gens := gs, toks := tk } → GenAt w A h₀ Lg G X rem pl { s with heap := h, gens := gs, toks := tk } → Fr h₀ L h m → News h₀ L h nx → J rem m nx → GenInv w A h₀ L Lg G X J s k s'
theorem forGen {w : World} {A : Around} {s : Shared} {h₀ : Heap} {env : Env} {m : Str → Option Value} {nx₀ : List (Addr × Obj)} {Lg G : Addr} {X : List (Int × List Nat)} {pl : List Addr} {xi xc : Str} {pk pv pt : Pos} {x1 : Nat} {body : List Stmt} {R : Result → Shared → Prop}
    (hh : A.handled = none) (hnl : h₀.NoLimit) (hroom : A.depth < recursionLimit) (hxi : env.kindOf xi = some .local) (hxc : env.kindOf xc = some .local)
    (hp : (env.scope.kind == .class || (env.scope.kind == .module && env.locals != env.globals)) = false)
    (F : Fr h₀ env.locals s.heap m) (N : News h₀ env.locals s.heap nx₀) (hlow : ∀ p ∈ nx₀, p.1 < Lg) (hL : @LT.lt Nat _ env.locals Lg) (g : GenAt w A h₀ Lg G X X pl s)
    (J : List (Int × List Nat) → (Str → Option Value) → List (Addr × Obj) → Prop) (hj0 : J X m nx₀) (hadr : ∀ rem m nx, J rem m nx → ∀ p ∈ nx, ∃ q ∈ nx₀, q.1 = p.1)
    (turn : ∀ x rem a b m₁ nx pp h gs tk, J (x :: rem) m₁ nx → (∀ p ∈ pp, @LE.le Nat _ Lg p.1) → Fr h₀ env.locals h (fun y => if y = xc then some (.str ⟨x.2.toArray⟩ b) else if y = xi then some (.int x.1 a) else m₁ y) → News h₀ env.locals h (nx ++ pp) → ∀ Q' : Flow → Shared → Prop, GenQ h₀ env.locals (J rem) pp gs s R Q' → ∀ E₁,
      wpAny (model rw_sn0078_01.row.prog w) A (execs body env) Q' E₁ { s with heap := h, gens := gs, toks := tk })
    (done : ∀ m₁ nx h gs tk, J [] m₁ nx → Fr h₀ env.locals h m₁ → News h₀ env.locals h nx → R (.ok .next) { s with heap := h, gens := gs, toks := tk }) :
    codeAny (model rw_sn0078_01.row.prog w) A (.forLoop (.Tuple [.Name xi pk, .Name xc pv] x1 pt) (.ref G) body [] env) R s := by
  have hLG : @LT.lt Nat _ Lg G := by obtain ⟨_, _, _, _, _, _, h, _⟩ := g; exact h
  refine codeAny_forLoop_any (GenInv w A h₀ env.locals Lg G X J s) ?_ X.length
    ⟨X, pl, m, nx₀, s.heap, s.gens, s.toks, rfl, rfl, g, F, N, hj0⟩
  rintro k s' ⟨rem, pl, m, nx, h, gs, tk, rfl, rfl, g, F, N, hj⟩
  have hnx : ∀ p ∈ nx, p.1 < Lg := fun p hp => by
    obtain ⟨q, hq, e⟩ := hadr _ _ _ hj p hp
    exact e ▸ hlow q hq
  have up : ∀ {h₁ : Heap}, (∀ b o, b ≠ Lg → @LE.le Nat _ b G → h.get? b = some o → h₁.get? b = some o) → Fr h₀ env.locals h₁ m ∧ News h₀ env.locals h₁ nx := fun hk =>
    ⟨⟨F.ns.at' fun o e => hk _ o (Nat.ne_of_lt hL) (Nat.le_of_lt (Nat.lt_trans hL hLG)) e, fun b o e => hk b o (Nat.ne_of_lt (Nat.lt_trans (Nat.lt_of_lt_of_le (Heap.lt_size e) F.above) hL)) (Nat.le_of_lt (Nat.lt_trans (Nat.lt_trans (Nat.lt_of_lt_of_le (Heap.lt_size e) F.above) hL) hLG)) (F.keep b o e), F.above⟩,
      fun p hp => ⟨hk _ _ (Nat.ne_of_lt (hnx p hp)) (Nat.le_of_lt (Nat.lt_trans (hnx p hp) hLG)) (N p hp).1, (N p hp).2⟩⟩
  cases rem with
  | nil =>
    refine gen_end hh (hnl.keeps F.keep) hroom F.keep g fun h₁ gens₁ tk₁ hk => wpAny_execs_nil ?_
    obtain ⟨F₁, N₁⟩ := up hk
    exact done m nx h₁ gens₁ tk₁ hj F₁ N₁
  | cons x rem =>
    refine gen_next hh (hnl.keeps F.keep) hroom F.keep g fun T a b pl' h₁ gens₁ tk₁ hT hGT hk g₁ => ?_
    obtain ⟨F₁, N₁⟩ := up hk
    obtain ⟨gn, hg⟩ : ∃ gn, Heap.IsGen h₁ G gn := by obtain ⟨g, _, _, h, _⟩ := id g₁; exact ⟨g, h⟩
    refine owned_gen (s := { s with heap := h₁, gens := gens₁, toks := tk₁ }) hg ?_
    refine wpAny_assign_Tuple (s := { s with heap := h₁, gens := gens₁, toks := tk₁ }) hh hT rfl rfl fun h₃ hx₃ => ?_
    replace hx₃ : Heap.ExtBut h₁.objs.size h₁ h₃ := hx₃
    have up₃ : ∀ b o, h₁.get? b = some o → h₃.get? b = some o := fun b o x => hx₃ b o (Nat.ne_of_lt (Heap.lt_size x)) x
    have F₃ := F₁.keeps up₃
    show wpAny _ A (do holding [.str ⟨x.2.toArray⟩ b] (assign (.Name xi pk) env (.int x.1 a)); do holding [] (assign (.Name xc pv) env (.str ⟨x.2.toArray⟩ b)); pure ()) _ _ _
    refine wpAny_bind (wpAny_holding (wpAny_assign_Name (wpAny_storeName_local hxi F₃.ns (fun h₄ hn₄ hs₄ => ?_) hp)))
    replace hs₄ : Heap.SameBut env.locals h₃ h₄ := hs₄
    have F₄ := F₃.set hn₄ hs₄
    refine wpAny_bind (wpAny_holding (wpAny_assign_Name (wpAny_storeName_local hxc F₄.ns (fun h₅ hn₅ hs₅ => wpAny_pure ?_) hp)))
    replace hs₅ : Heap.SameBut env.locals h₄ h₅ := hs₅
    have F₅ := F₄.set hn₅ hs₅
    have N₅ : News h₀ env.locals h₅ nx := ((N₁.grown up₃).set hs₄).set hs₅
    have hpl : ∀ b ∈ pl', (b = Lg ∨ @LE.le Nat _ G b) ∧ ∃ o, h₁.get? b = some o := by obtain ⟨_, _, _, _, _, _, _, h, _⟩ := id g₁; exact h
    have hge : ∀ b ∈ pl', @LE.le Nat _ Lg b := fun b hb => (hpl b hb).1.elim (fun e => Nat.le_of_eq e.symm) fun h => Nat.le_trans (Nat.le_of_lt hLG) h
    have hLp : env.locals ∉ pl' := fun h => Nat.lt_irrefl _ (Nat.lt_of_lt_of_le hL (hge _ h))
    have h0p : ∀ b ∈ pl', h₀.get? b = none := fun b hb => by
      cases e : h₀.get? b with
      | none => rfl
      | some o => exact absurd (Nat.lt_of_lt_of_le (Nat.lt_of_lt_of_le (Heap.lt_size e) F.above) (Nat.le_trans (Nat.le_of_lt hL) (hge b hb))) (Nat.lt_irrefl _)
    have k₅ : ∀ b o, b ≠ env.locals → h₁.get? b = some o → h₅.get? b = some o := fun b o hb e => hs₅.extBut b o hb (hs₄.extBut b o hb (up₃ b o e))
    refine wpAny_mono (turn x rem a b m nx (ownOf h₀ pl' h₅) h₅ gens₁ _ hj (fun p hp => hge _ (ownOf_sub p hp)) F₅ (N₅.append (news_ownOf hLp)) _ GenQ.self _) (fun f s₃ hf => ?_) fun _ _ e => e
    have fin : (∃ h' tk' m' nx', s₃ = { s with heap := h', gens := gens₁, toks := tk' } ∧ Fr h₀ env.locals h' m' ∧ News h₀ env.locals h' (nx' ++ ownOf h₀ pl' h₅) ∧ J rem m' nx') → ∃ m_1, m_1 < (x :: rem).length ∧ GenInv w A h₀ env.locals Lg G X J s m_1 s₃ := by
      rintro ⟨h', tk', m', nx', rfl, F', N', hj'⟩
      refine ⟨rem.length, by simp, rem, pl', m', nx', h', gens₁, tk', rfl, rfl, ?_, F', fun p hp => N' p (List.mem_append_left _ hp), hj'⟩
      refine GenAt.keep (s := { s with heap := h₁, gens := gens₁, toks := tk₁ }) g₁ fun b hb o e => ?_
      exact (N' _ (List.mem_append_right _ (mem_ownOf hb (h0p b hb) (k₅ b o (fun q => hLp (q ▸ hb)) e)))).1
    cases f with
    | next => exact fin hf
    | cont => exact fin hf
    | brk => exact hf
    | ret v => exact hf
noncomputable def sliceL (cps : List Nat) (a b : Int) : List Nat := (cps.drop a.toNat).take (b - a).toNat
noncomputable def stripGo (cps : List Nat) : List (Int × List Nat) → Int → Option Int → List (List Nat) → Int × List (List Nat)
  | [], st, _, res => (st, res)
  | x :: r, st, none, res => if x.2 = [34] then stripGo cps r st (some x.1) res else stripGo cps r st none res
  | x :: r, st, some o, res => if x.2 = [34] then stripGo cps r (x.1 + 1) none (if st = o then res else res ++ [sliceL cps st o]) else stripGo cps r st (some o) res
noncomputable def stripOf (cps : List Nat) : List Nat :=
  if 34 ∈ cps then
    let a := stripGo cps (escI 0 false cps) 0 none []
    (if a.1 < cps.length then a.2 ++ [cps.drop a.1.toNat] else a.2).flatten
  else cps
noncomputable def checkGo : List (Int × List Nat) → Int → Bool
  | [], n => decide (n = 0)
  | x :: r, n => if x.2 = [40] then checkGo r (n + 1) else if x.2 = [41] then (if n - 1 < 0 then false else checkGo r (n - 1)) else checkGo r n
noncomputable def checkOf (cps : List Nat) : Bool := checkGo (escI 0 false (stripOf cps)) 0
noncomputable def Asc (hi : Int) : Int → List (Int × List Nat) → Prop
  | _, [] => True
  | lo, x :: r => lo ≤ x.1 ∧ x.1 < hi ∧ x.2.length ≤ 2 ∧ Asc hi (x.1 + 1) r
theorem Asc.mono {hi lo lo' : Int} : ∀ {r : List (Int × List Nat)}, Asc hi lo r → lo' ≤ lo → Asc hi lo' r
  | [], _, _ => trivial
  | _ :: _, ⟨a, b⟩, h => ⟨Int.le_trans h a, b⟩
theorem escI_asc : ∀ (cs : List Nat) (i : Nat) (hi : Int), (i : Int) + cs.length = hi → (Asc hi i (escI i false cs)) ∧ (0 < i → Asc hi ((i : Int) - 1) (escI i true cs))
  | [], i, hi, h => by
    refine ⟨trivial, fun hp => ⟨Int.le_refl _, ?_, by simp, trivial⟩⟩
    simp at h; show (i : Int) - 1 < hi; omega
  | c :: cs, i, hi, h => by
    have ih := escI_asc cs (i + 1) hi (by simp at h ⊢; omega)
    have hc : (i : Int) < hi := by simp at h; omega
    have e1 : ((i + 1 : Nat) : Int) = (i : Int) + 1 := by omega
    rw [e1] at ih
    have e2 : (i : Int) + 1 - 1 = i := by omega
    rw [e2] at ih
    refine ⟨?_, fun hp => ?_⟩
    · unfold escI
      split
      · exact ih.2 (by omega)
      · exact ⟨Int.le_refl _, hc, by simp, ih.1⟩
    · unfold escI
      refine ⟨?_, hc, by simp, ih.1⟩
      show (i : Int) - 1 ≤ i; omega
local macro_rules | `(tactic| omega) => `(tactic| k_extra "omega")
theorem rg_ConS1_0 : True := by
  k_with_none
  (k_with "omega" => (first | lia))
  trivial
theorem join_flat (res : List (List Nat)) : Txt.join (Str.ofString "") (res.map fun l => ⟨l.toArray⟩) = ⟨res.flatten.toArray⟩ := by
  have key : ∀ (r : List (List Nat)) (acc : Array Nat), (r.map fun l => (⟨l.toArray⟩ : Str)).foldl (fun acc p => acc ++ (Str.ofString "").cps ++ p.cps) acc = acc ++ r.flatten.toArray := by
    intro r
    induction r with
    | nil => intro acc; simp
    | cons a r ih =>
      intro acc
      have e : (Str.ofString "").cps = #[] := by decide +kernel
      rw [List.map_cons, List.foldl_cons, ih, e]
      simp
  cases res with
  | nil => rfl
  | cons a r =>
    show Str.mk _ = _
    congr 1
    have := key r a.toArray
    simpa using this
theorem gen_iter {w : World} {A A₂ : Around} {hb : Heap} {Lg G : Addr} {X rem : List (Int × List Nat)} {pl : List Addr} {s : Shared} {E : Value → Shared → Prop} {Q : Value → Shared → Prop} (g : GenAt w A₂ hb Lg G X rem pl s) (h : Q (.ref G) s) : wpAny (model rw_sn0078_01.row.prog w) A (pyIter (.ref G)) Q E s := by
  obtain ⟨_, _, _, hg, _⟩ := g
  exact wpAny_pyIter_gen hg h
theorem gen_iter2 {w : World} {A : Around} {hb : Heap} {Lg G : Addr} {X rem : List (Int × List Nat)} {pl : List Addr} {s : Shared} {E : Value → Shared → Prop} {Q : Value → Shared → Prop} (hh : A.handled = none) (g : ∀ A' : Around, A'.handled = none → GenAt w A' hb Lg G X rem pl s) (h : Q (.ref G) s) : wpAny (model rw_sn0078_01.row.prog w) A (pyIter (.ref G)) Q E s := gen_iter (g A hh) h
theorem has_one (cps : List Nat) : (Builtin.Str.occurrences ⟨cps.toArray⟩ (Str.ofString "\"") 0 (⟨cps.toArray⟩ : Str).length 1).isEmpty = !decide (34 ∈ cps) := by
  rw [show Str.ofString "\"" = ⟨#[34]⟩ from qt_l, empty_one]
theorem strs_snoc {vs : List Value} {ys : List Str} (h : StrsAre vs ys) (y : Str) (t : Tok) : StrsAre (vs ++ [.str y t]) (ys ++ [y]) := by
  induction h with
  | nil => exact .cons y t .nil
  | cons s t' h ih => exact .cons s t' ih
theorem strs_len' {vs : List Value} {ys : List Str} (h : StrsAre vs ys) : vs.length = ys.length := strs_len h
theorem one_is (l : List Nat) (c : Nat) : ((⟨l.toArray⟩ : Str) == ⟨[c].toArray⟩) = decide (l = [c]) := by
  rw [Bool.eq_iff_iff]; simp
theorem is34 (l : List Nat) : ((⟨l.toArray⟩ : Str) == Str.ofString "\"") = decide (l = [34]) := by rw [qt_l, one_is]
theorem strip_nil (cps : List Nat) (st : Int) (op : Option Int) (res : List (List Nat)) : stripGo cps [] st op res = (st, res) := by cases op <;> rfl
theorem strip_open {cps : List Nat} {x : Int × List Nat} {r : List (Int × List Nat)} {st : Int} {res : List (List Nat)} (h : x.2 = [34]) : stripGo cps (x :: r) st none res = stripGo cps r st (some x.1) res := by simp [stripGo, h]
theorem strip_skip0 {cps : List Nat} {x : Int × List Nat} {r : List (Int × List Nat)} {st : Int} {res : List (List Nat)} (h : ¬ x.2 = [34]) : stripGo cps (x :: r) st none res = stripGo cps r st none res := by simp [stripGo, h]
theorem strip_skip1 {cps : List Nat} {x : Int × List Nat} {r : List (Int × List Nat)} {st o : Int} {res : List (List Nat)} (h : ¬ x.2 = [34]) : stripGo cps (x :: r) st (some o) res = stripGo cps r st (some o) res := by simp [stripGo, h]
theorem strip_close {cps : List Nat} {x : Int × List Nat} {r : List (Int × List Nat)} {st o : Int} {res : List (List Nat)} (h : x.2 = [34]) (hn : st ≠ o) : stripGo cps (x :: r) st (some o) res = stripGo cps r (x.1 + 1) none (res ++ [sliceL cps st o]) := by simp [stripGo, h, hn]
theorem strip_close0 {cps : List Nat} {x : Int × List Nat} {r : List (Int × List Nat)} {st o : Int} {res : List (List Nat)} (h : x.2 = [34]) (hn : st = o) : stripGo cps (x :: r) st (some o) res = stripGo cps r (x.1 + 1) none res := by simp [stripGo, h, hn]
theorem sliceL_len (cps : List Nat) (a b : Int) : (sliceL cps a b).length ≤ (b - a).toNat := by unfold sliceL; rw [List.length_take]; exact Nat.min_le_left _ _
theorem strs_snocL {vs : List Value} {res : List (List Nat)} (h : StrsAre vs (res.map fun l => ⟨l.toArray⟩)) (l : List Nat) (t : Tok) : StrsAre (vs ++ [.str ⟨l.toArray⟩ t]) ((res ++ [l]).map fun l => ⟨l.toArray⟩) := by
  rw [List.map_append]; exact strs_snoc h _ t
theorem strs_snocC {vs : List Value} {res : List (List Nat)} (h : StrsAre vs (res.map fun l => ⟨l.toArray⟩)) (l : List Nat) (t : Tok) : StrsAre (vs.toArray.toList.concat (.str ⟨l.toArray⟩ t)) ((res ++ [l]).map fun l => ⟨l.toArray⟩) := by
  rw [List.concat_eq_append, List.toList_toArray]; exact strs_snocL h l t
theorem strs_snocX {vs : List Value} {res : List (List Nat)} (h : StrsAre vs (res.map fun l => ⟨l.toArray⟩)) {l : List Nat} {y : Str} (e : y = ⟨l.toArray⟩) (t : Tok) : StrsAre (vs ++ [.str y t]) ((res ++ [l]).map fun l => ⟨l.toArray⟩) := by
  subst e; exact strs_snocL h l t
theorem join_res {prog : Program} {w : World} {A : Around} {E : Value → Shared → Prop} {s : Shared} {h₀ : Heap} {L : Addr} {news : List (Addr × Obj)} {D : Addr} {n : Nat} {t : Tok} {vs : List Value} {res : List (List Nat)} {Q : Value → Shared → Prop}
    (N : News h₀ L s.heap news) (hm : (D, listOf vs.toArray n) ∈ news) (hs : StrsAre vs (res.map fun l => ⟨l.toArray⟩)) (hz : (res.map List.length).sum ≤ 100000)
    (h : ∀ t' k, Q (.str ⟨res.flatten.toArray⟩ t') { s with toks := k }) : wpAny (model prog w) A (call (.builtin "str.join") [.str (Str.ofString "") t, .ref D]) Q E s := by
  refine join_list (⟨_, (N _ hm).1, rfl, n, rfl⟩ : s.heap.IsList D vs.toArray) (by simpa using hs) ?_ (fun t' k => by rw [join_flat]; exact h t' k)
  have h4 : (Str.ofString "").length = 0 := by decide +kernel
  have h5 : ((res.map fun l => (⟨l.toArray⟩ : Str)).map fun s => s.length) = res.map List.length := by rw [List.map_map]; exact List.map_congr_left fun l _ => l_len l
  rw [h4, Nat.mul_zero]
  have : ((res.map fun l => (⟨l.toArray⟩ : Str)).map (·.length)).sum = (res.map List.length).sum := congrArg List.sum h5
  omega
theorem slice_mid {l : List Nat} {a b : Int} (h0 : 0 ≤ a) (h1 : a ≤ b) (h2 : b ≤ l.length) : Txt.slice ⟨l.toArray⟩ (some a) (some b) = ⟨(sliceL l a b).toArray⟩ := by
  show StrLaws.sliceText _ (some a) (some b) = _
  rw [StrLaws.sliceText_plain ⟨h0, h1, by simpa using h2⟩]; simp [sliceL]
theorem rg_ConS1_1 : True := by
  k_with_none
  (k_with "my_cell_enter" => (refine' code_defG (B := by k_asm) (F := by k_asm) (by k_asm) (N := by k_asm) (T := by k_asm) (hA := by exact rfl) (hf := by exact rfl) (hke := by assumption) (ho := by k_is) (hcd := by k_is) (hroom := by ktr_room) (hbind := by exact BindsTo.of_eq rfl) (hloc := by exact locs rfl) ?_ (hco := by exact rfl) (hgen := by exact rfl) (hk := by exact rfl) (hcell := by decide); k_whole; intro g' L' h' FG' F' N' B' X' T' GS'; (try dsimp only); (try k_lift B'); (try k_fold)))
  (k_with "eval Constant int" => (refine constI ?_))
  (k_with "eval Constant str" => (refine constS ?_))
  (k_with "eval Call" => ((show let Q9 := _; wpAny _ _ _ Q9 _ _); intro Q9; refine Call_ ?_))
  (k_with "eval Call Attribute" => ((show let Q9 := _; wpAny _ _ _ Q9 _ _); intro Q9; refine MethodCall_ ?_))
  (k_with "exec If" => ((show let Q9 := _; wpAny _ _ _ Q9 _ _); intro Q9; refine wpAny_If ?_))
  (k_with "exec Assign" => ((show let Q9 := _; wpAny _ _ _ Q9 _ _); intro Q9; refine wpAny_Assign_Name ?_))
  (k_with "exec AugAssign" => ((show let Q9 := _; wpAny _ _ _ Q9 _ _); intro Q9; refine wpAny_AugAssign_Name ?_))
  (k_with "eval BinOp" => ((show let Q9 := _; wpAny _ _ _ Q9 _ _); intro Q9; refine wpAny_BinOp ?_))
  (k_with "eval Compare" => ((show let Q9 := _; wpAny _ _ _ Q9 _ _); intro Q9; refine wpAny_Compare1 ?_))
  (k_with "isTrue Compare" => ((show let Q9 := _; wpAny _ _ _ Q9 _ _); intro Q9; refine wpAny_isTrue_Compare1 ?_))
  (k_with "eval Subscript" => ((show let Q9 := _; wpAny _ _ _ Q9 _ _); intro Q9; refine Subscript_ ?_))
  (k_with "my_k_all" => (exact TailOff.ne (by assumption)))
  (k_with "my_k_all" => (exact allLt_ne (by assumption)))
  (k_with "a" => (with_reducible assumption))
  (k_with "lt" => ((first | (with_reducible show @LT.lt Nat _ _ _) | (with_reducible show @LE.le Nat _ _ _)); first | k_extra "a" | (with_reducible refine Nat.lt_of_succ_lt ?_; k_extra "a") | (with_reducible refine Nat.le_of_lt ?_; first | k_extra "a" | (refine Nat.lt_of_succ_lt ?_; k_extra "a")) | (with_reducible refine Nat.lt_trans ?_ (by with_reducible assumption); k_extra "lt")))
  (k_with "lt0" => (first | with_reducible exact Nat.lt_succ_self _ | with_reducible assumption | (with_reducible refine Nat.lt_succ_of_lt ?_; k_extra "lt0")))
  (k_with "my_k_ne" => (refine neN ?_; (try dsimp only); first | (refine Nat.ne_of_lt ?_; k_extra "lt0") | (refine Nat.ne_of_gt ?_; k_extra "lt0") | (refine Nat.ne_of_lt ?_; k_extra "lt") | (refine Nat.ne_of_gt ?_; k_extra "lt")))
  (k_with "call builtin:len" => (k_here; (with_reducible show wpAny _ _ (call (Value.builtin "len") [Value.str _ _]) _ _ _); k_dflt (refine' len_l (hz := by (first | assumption | omega | (simp only [List.length_append, List.length_cons, List.length_nil, List.length_take, List.length_drop]; omega))) ?_); intro _ _))
  (k_with "binaryOp Add str str" => (k_here; (with_reducible show wpAny _ _ (binaryOp _ (Value.str _ _) (Value.str _ _)) _ _ _); k_dflt (refine' add_l (hX := by first | with_reducible rfl | exact bs_l | exact qt_l | exact em_l | exact ws_l | exact str_self _) (hY := by first | with_reducible rfl | exact bs_l | exact qt_l | exact em_l | exact ws_l | exact str_self _) (hz := by (first | assumption | omega | (simp only [List.length_append, List.length_cons, List.length_nil, List.length_take, List.length_drop]; omega))) ?_); intro _ _))
  (k_with "inplaceOp Add str str" => (k_here; (with_reducible show wpAny _ _ (inplaceOp _ (Value.str _ _) (Value.str _ _)) _ _ _); k_dflt (refine' iadd_l (hX := by first | with_reducible rfl | exact bs_l | exact qt_l | exact em_l | exact ws_l | exact str_self _) (hY := by first | with_reducible rfl | exact bs_l | exact qt_l | exact em_l | exact ws_l | exact str_self _) (hz := by (first | assumption | omega | (simp only [List.length_append, List.length_cons, List.length_nil, List.length_take, List.length_drop]; omega))) ?_); intro _ _))
  (k_with "subscriptTail Name Name str int" => (k_here; (with_reducible show wpAny _ _ (subscriptTail _ _ (Value.str _ _) (Value.int _ _)) _ _ _); k_dflt (refine' item_l (hX := by first | with_reducible rfl | exact bs_l | exact qt_l | exact em_l | exact ws_l | exact str_self _) (h0 := by (first | assumption | omega | (simp only [List.length_append, List.length_cons, List.length_nil, List.length_take, List.length_drop]; omega))) (h1 := by (first | assumption | omega | (simp only [List.length_append, List.length_cons, List.length_nil, List.length_take, List.length_drop]; omega))) (hz := by (first | assumption | omega | (simp only [List.length_append, List.length_cons, List.length_nil, List.length_take, List.length_drop]; omega))) ?_ (hs := by first | exact .inl (by with_unfolding_all rfl) | exact .inr (by with_unfolding_all rfl))); intro _))
  (k_with "subscriptTail Name Slice str ref" => (k_here; (with_reducible show wpAny _ _ (subscriptTail _ (PySem.Expr.Slice none (some _) none _) _ _) _ _ _); k_dflt (refine' sliceTo_l (F := by k_asm) (N := by k_asm) (h0 := by (first | assumption | omega | (simp only [List.length_append, List.length_cons, List.length_nil, List.length_take, List.length_drop]; omega))) (h1 := by (first | assumption | omega | (simp only [List.length_append, List.length_cons, List.length_nil, List.length_take, List.length_drop]; omega))) (hz := by (first | assumption | omega | (simp only [List.length_append, List.length_cons, List.length_nil, List.length_take, List.length_drop]; omega))) ?_ (hs := by with_unfolding_all rfl) (ht := by (intro _; with_unfolding_all rfl))); intro _ _ _ _ _))
  (k_with "subscriptTail Name Slice str ref" => (k_here; (with_reducible show wpAny _ _ (subscriptTail _ (PySem.Expr.Slice (some _) none none _) _ _) _ _ _); k_dflt (refine' sliceFrom_l (F := by k_asm) (N := by k_asm) (h0 := by (first | assumption | omega | (simp only [List.length_append, List.length_cons, List.length_nil, List.length_take, List.length_drop]; omega))) (h1 := by (first | assumption | omega | (simp only [List.length_append, List.length_cons, List.length_nil, List.length_take, List.length_drop]; omega))) (hz := by (first | assumption | omega | (simp only [List.length_append, List.length_cons, List.length_nil, List.length_take, List.length_drop]; omega))) ?_ (hs := by with_unfolding_all rfl) (ht := by (intro _; with_unfolding_all rfl))); intro _ _ _ _ _))
  (k_with "eval Name" => (k_here; (fail_if_success (with_reducible show wpAny _ _ (eval _ (compEnvC _ _ _ _)) _ _ _)); k_dflt (refine' nameX_L2 (hx := by rfl) (hk := by rfl) (hd := by rfl) (F := by k_asm) (hv := by (first | exact rfl | assumption | ((repeat refine (if_neg (by decide)).trans ?_); first | assumption | exact if_pos rfl))) ?_; k_whole)))
  (k_with "call ref" => (k_here; (with_reducible show wpAny _ _ (call (Value.ref 21) [Value.str _ _]) _ _ _); k_dflt (refine wpAny_call ?_; refine' gen_call (F := by k_asm) (N := by k_asm) (X := by k_asm) (T := by k_asm) (hroom := by first | ktr_room) ?_); intro G7 Lg7 o7 h7 gs7 tk7 F7 N7 lw7 lL7 lG7 g7; (try dsimp only)))
  (k_with "pyIter ref" => (k_here; k_dflt (refine' gen_iter2 (hh := by exact rfl) (g := by assumption) ?_)))
  (k_with "call builtin:list.append" => (k_here; (with_reducible show wpAny _ _ (call (Value.builtin _) [Value.ref _, _]) _ _ _); k_dflt (refine' append_K (F := by k_asm) (N := by k_asm) (U := by k_upd) ?_ (hsz := by (rw [sizeLine_eq]; simp only [List.size_toArray]; omega)); k_whole); walk_at "i81887c"))
  (k_with "call builtin:str.join" => (k_here; k_dflt (refine' join_res (N := by k_asm) (hm := by k_mem) (hs := by first | assumption | exact strs_snocL (by assumption) _ _ | exact strs_snocC (by assumption) _ _) (hz := by first | omega | (simp only [List.map_append, List.sum_append, List.map_cons, List.map_nil, List.sum_cons, List.sum_nil, List.length_drop]; omega)) ?_); intro _ _))
  (k_with "exec For Tuple Call cons nil" => (k_here; k_dflt (refine' wpAny_For ?_ (hs := by exact fun _ => rfl))))
  (k_with "omega" => (first | k_extra "lt" | lia))
  (k_with "i81887c" => (intro h' F' N'; (try simp only [List.push_toArray] at N'); revert h' F' N'; intros))
  trivial
inductive StripJ (D0 : Addr) (cps : List Nat) (t : Tok) (tail : List (Addr × Obj)) (rem : List (Int × List Nat)) (m : Str → Option Value) (nx : List (Addr × Obj)) : Prop
  | mk (st : Int) (op : Option Int) (res : List (List Nat)) (vs : List Value) (nD : Nat) (lo : Int) (ts : Tok) : (nx = (D0, listOf vs.toArray nD) :: tail) → (StrsAre vs (res.map fun l => ⟨l.toArray⟩)) → (m (Str.ofString "result") = some (.ref D0)) → (m (Str.ofString "addr") = some (.str ⟨cps.toArray⟩ t)) → (m (Str.ofString "start") = some (.int st ts)) → (((op = none ∧ m (Str.ofString "open_pos") = some .none) ∨ ∃ o to, op = some o ∧ m (Str.ofString "open_pos") = some (.int o to) ∧ st ≤ o ∧ o < lo ∧ o < cps.length)) → (Asc cps.length lo rem) → (0 ≤ st) → (st ≤ lo) → (st ≤ cps.length) → (((res.map List.length).sum : Int) ≤ st) → ((res.length : Int) ≤ st) → (stripGo cps (escI 0 false cps) 0 none [] = stripGo cps rem st op res) → StripJ D0 cps t tail rem m nx
set_option maxHeartbeats 4000000 in
theorem c_strip (w : World) (q : Program) (mean : ExcName → Option Value) (mg mb : Str → Option Value) (loose : List Str) (tail : List (Addr × Obj)) (cps : List Nat) (t : Tok) :
  ClG 5 rw_sn0078_01.row.prog w (K0 w.params) q loose mean mg mb 28 tail [] (cps.length ≤ 1000) [.str ⟨cps.toArray⟩ t]
    (fun v news' => ∃ t', v = .str ⟨(stripOf cps).toArray⟩ t' ∧ news' = tail) := by
  k_fill
  dsimp only [ClG]; intros; rename_i hz _ _ hret
  k_dflt cell_enter
  k_steps
  · refine' hret _ _ _ _ _ ⟨t, congrArg (fun z => Value.str (Str.mk (List.toArray z)) t) ?e0, rfl⟩ (by k_asm) (by assumption) (clm_ext (by assumption) (by assumption) (by assumption) (by assumption) fun p hp => .inr (by repeat (first | assumption | refine List.mem_cons_of_mem _ ?_)))
    case e0 =>
      have h34 : (Builtin.Str.occurrences ⟨cps.toArray⟩ (Str.ofString "\"") 0 (⟨cps.toArray⟩ : Str).length 1).isEmpty = true := by assumption
      rw [has_one] at h34
      unfold stripOf
      rw [if_neg (by simpa using h34)]
  · rename_i D0 hA lwD hB FB NB
    have h34 : (Builtin.Str.occurrences ⟨cps.toArray⟩ (Str.ofString "\"") 0 (⟨cps.toArray⟩ : Str).length 1).isEmpty = false := by assumption
    rw [has_one] at h34
    have h34' : 34 ∈ cps := by simpa using h34
    have hasc := (escI_asc cps 0 cps.length (by simp)).1
    have hDg : @LT.lt Nat _ D0 Lg7 := lw7 (D0, _) (.head _)
    refine' forGen (nx₀ := (D0, listOf #[] 0) :: tail) (Lg := Lg7) (X := escI 0 false cps) ?hh ?hnl ?hr ?hxi ?hxc ?hp ?fF ?fN ?fl ?fL ?gg
      (StripJ D0 cps t tail)
      ⟨0, none, [], [], 0, 0, _, rfl, .nil, ?i1, ?i2, ?i3, .inl ⟨rfl, ?i4⟩, hasc, by omega, by omega, by omega, by simp, by simp, rfl⟩ ?adr ?turn ?done
    case hh => exact rfl
    case fF => exact F7
    case fN => exact fun p hp => N7 p (.tail _ hp)
    case fl => exact lw7
    case fL => exact lL7
    case gg => exact g7 _ rfl
    case hnl => exact T'.nolimit
    case hr => ktr_room
    case hxi => exact rfl
    case hxc => exact rfl
    case hp => exact rfl
    case i1 => exact if_pos rfl
    case i2 => rfl
    case i3 => rfl
    case i4 => rfl
    case adr =>
      rintro rem m nx ⟨st, op, res, vs, nD, lo, ts, rfl, _⟩ p hp
      rcases List.mem_cons.mp hp with rfl | hp
      · exact ⟨_, .head _, rfl⟩
      · exact ⟨p, .tail _ hp, rfl⟩
    case turn =>
      rintro x rem a b m₁ nx pp hh gs tkk ⟨st, op, res, vs, nD, lo, ts, rfl, hvs, hm1, hm2, hm3, hop, hA', h0, h1, h1', h2, h2', hgo⟩ hpp F5 N5 Q' hQ E₁
      simp only [List.cons_append] at N5
      have htd : TailOff D0 (tail ++ pp) := ⟨fun p hp => (List.mem_append.mp hp).elim (fun h => Nat.ne_of_lt (lwD p h)) fun h => Nat.ne_of_gt (Nat.lt_of_lt_of_le hDg (hpp p h))⟩
      obtain ⟨hx0, hx1, hx2, hA''⟩ := hA'
      have hvl : vs.length ≤ 1000 := by
        have := strs_len hvs
        rw [List.length_map] at this; omega
      rcases hop with ⟨rfl, hm4⟩ | ⟨o, to, rfl, hm4, ho1, ho2, ho3⟩
      · k_steps
        · have h3 := (is34 x.2).symm.trans (by assumption)
          refine' hQ.next _ _ _ _ (by assumption) (by assumption) ⟨st, some x.1, res, vs, nD, x.1 + 1, ts, rfl, hvs, ?a1, ?a2, ?a3, .inr ⟨x.1, a, rfl, ?a4, by omega, by omega, by omega⟩, hA'', h0, by omega, h1', h2, h2', hgo.trans (strip_open (of_decide_eq_true h3))⟩
          case a1 => (try dsimp only); (first | assumption | exact if_pos rfl | ((repeat refine (if_neg (by decide)).trans ?_); first | assumption | exact if_pos rfl))
          case a2 => (try dsimp only); (first | assumption | exact if_pos rfl | ((repeat refine (if_neg (by decide)).trans ?_); first | assumption | exact if_pos rfl))
          case a3 => (try dsimp only); (first | assumption | exact if_pos rfl | ((repeat refine (if_neg (by decide)).trans ?_); first | assumption | exact if_pos rfl))
          case a4 => (try dsimp only); (first | assumption | exact if_pos rfl | ((repeat refine (if_neg (by decide)).trans ?_); first | assumption | exact if_pos rfl))
        · have h3 := (is34 x.2).symm.trans (by assumption)
          refine' hQ.next _ _ _ _ (by assumption) (by assumption) ⟨st, none, res, vs, nD, x.1 + 1, ts, rfl, hvs, ?b1, ?b2, ?b3, .inl ⟨rfl, ?b4⟩, hA'', h0, by omega, h1', h2, h2', hgo.trans (strip_skip0 (of_decide_eq_false h3))⟩
          case b1 => (try dsimp only); (first | assumption | exact if_pos rfl | ((repeat refine (if_neg (by decide)).trans ?_); first | assumption | exact if_pos rfl))
          case b2 => (try dsimp only); (first | assumption | exact if_pos rfl | ((repeat refine (if_neg (by decide)).trans ?_); first | assumption | exact if_pos rfl))
          case b3 => (try dsimp only); (first | assumption | exact if_pos rfl | ((repeat refine (if_neg (by decide)).trans ?_); first | assumption | exact if_pos rfl))
          case b4 => (try dsimp only); (first | assumption | exact if_pos rfl | ((repeat refine (if_neg (by decide)).trans ?_); first | assumption | exact if_pos rfl))
      · k_steps
        · have h3 := (is34 x.2).symm.trans (by assumption)
          have hsl := sliceL_len cps st o
          try simp only [List.push_toArray] at *
          refine' hQ.next _ _ _ _ (by assumption) (by assumption) ⟨x.1 + 1, none, res ++ [sliceL cps st o], _, _, x.1 + 1, _, rfl, strs_snocX hvs (slice_mid h0 ho1 (by omega)) _, ?c1, ?c2, ?c3, .inl ⟨rfl, ?c4⟩, hA'', by omega, by omega, by omega, ?c5, ?c6, hgo.trans (strip_close (of_decide_eq_true h3) (by assumption))⟩
          case c5 => simp only [List.map_append, List.sum_append, List.map_cons, List.map_nil, List.sum_cons, List.sum_nil]; omega
          case c6 => simp only [List.length_append, List.length_cons, List.length_nil]; omega
          case c1 => (try dsimp only); (first | assumption | exact if_pos rfl | ((repeat refine (if_neg (by decide)).trans ?_); first | assumption | exact if_pos rfl))
          case c2 => (try dsimp only); (first | assumption | exact if_pos rfl | ((repeat refine (if_neg (by decide)).trans ?_); first | assumption | exact if_pos rfl))
          case c3 => (try dsimp only); (first | assumption | exact if_pos rfl | ((repeat refine (if_neg (by decide)).trans ?_); first | assumption | exact if_pos rfl))
          case c4 => (try dsimp only); (first | assumption | exact if_pos rfl | ((repeat refine (if_neg (by decide)).trans ?_); first | assumption | exact if_pos rfl))
        · have h3 := (is34 x.2).symm.trans (by assumption)
          refine' hQ.next _ _ _ _ (by assumption) (by assumption) ⟨x.1 + 1, none, res, vs, nD, x.1 + 1, _, rfl, hvs, ?d1, ?d2, ?d3, .inl ⟨rfl, ?d4⟩, hA'', by omega, by omega, by omega, by omega, by omega, hgo.trans (strip_close0 (of_decide_eq_true h3) (by assumption))⟩
          case d1 => (try dsimp only); (first | assumption | exact if_pos rfl | ((repeat refine (if_neg (by decide)).trans ?_); first | assumption | exact if_pos rfl))
          case d2 => (try dsimp only); (first | assumption | exact if_pos rfl | ((repeat refine (if_neg (by decide)).trans ?_); first | assumption | exact if_pos rfl))
          case d3 => (try dsimp only); (first | assumption | exact if_pos rfl | ((repeat refine (if_neg (by decide)).trans ?_); first | assumption | exact if_pos rfl))
          case d4 => (try dsimp only); (first | assumption | exact if_pos rfl | ((repeat refine (if_neg (by decide)).trans ?_); first | assumption | exact if_pos rfl))
        · have h3 := (is34 x.2).symm.trans (by assumption)
          refine' hQ.next _ _ _ _ (by assumption) (by assumption) ⟨st, some o, res, vs, nD, x.1 + 1, ts, rfl, hvs, ?e1, ?e2, ?e3, .inr ⟨o, to, rfl, ?e4, ho1, by omega, ho3⟩, hA'', h0, by omega, h1', h2, h2', hgo.trans (strip_skip1 (of_decide_eq_false h3))⟩
          case e1 => (try dsimp only); (first | assumption | exact if_pos rfl | ((repeat refine (if_neg (by decide)).trans ?_); first | assumption | exact if_pos rfl))
          case e2 => (try dsimp only); (first | assumption | exact if_pos rfl | ((repeat refine (if_neg (by decide)).trans ?_); first | assumption | exact if_pos rfl))
          case e3 => (try dsimp only); (first | assumption | exact if_pos rfl | ((repeat refine (if_neg (by decide)).trans ?_); first | assumption | exact if_pos rfl))
          case e4 => (try dsimp only); (first | assumption | exact if_pos rfl | ((repeat refine (if_neg (by decide)).trans ?_); first | assumption | exact if_pos rfl))
    case done =>
      rintro m₁ nx hh gs tkk ⟨st, op, res, vs, nD, lo, ts, rfl, hvs, hm1, hm2, hm3, hop, hA', h0, h1, h1', h2, h2', hgo⟩ F5 N5
      dsimp only
      k_steps
      · refine' hret _ _ _ _ _ ⟨_, congrArg (fun z => Value.str (Str.mk (List.toArray z)) _) ?g1, rfl⟩ (by k_asm) ?ng1 ?xg1
        case ng1 => exact news_sub (by assumption) fun p hp => by repeat (first | assumption | refine List.mem_cons_of_mem _ ?_)
        case xg1 => exact (clm_ext (by assumption) (by assumption) (by assumption) (by assumption) fun p hp => .inr (by repeat (first | assumption | refine List.mem_cons_of_mem _ ?_)))
        case g1 =>
          unfold stripOf
          rw [if_pos h34', hgo, strip_nil]
          dsimp only
          rw [if_pos (by assumption)]
      · refine' hret _ _ _ _ _ ⟨_, congrArg (fun z => Value.str (Str.mk (List.toArray z)) _) ?g2, rfl⟩ (by k_asm) ?ng2 ?xg2
        case ng2 => exact news_sub (by assumption) fun p hp => by repeat (first | assumption | refine List.mem_cons_of_mem _ ?_)
        case xg2 => exact (clm_ext (by assumption) (by assumption) (by assumption) (by assumption) fun p hp => .inr (by repeat (first | assumption | refine List.mem_cons_of_mem _ ?_)))
        case g2 =>
          unfold stripOf
          rw [if_pos h34', hgo, strip_nil]
          dsimp only
          rw [if_neg (by assumption)]
section
variable {w : World} {q : Program} {mean : ExcName → Option Value} {mg mb : Str → Option Value} {loose : List Str} {tail : List (Addr × Obj)}
  {dp un : Nat} {gd : Option (List Code)} {cn : Str} {cs : Scope} {a : Addr} {ccd : Value} {cl : List (Str × Addr)} {outer : List Env} {A₀ : Around} {base h₀ : Heap} {L : Addr} {m : Str → Option Value} {s : Shared} {E : Value → Shared → Prop}
theorem g_strip {cps : List Nat} {t : Tok} {Q : Value → Shared → Prop} (F : Fr h₀ L s.heap m) (N : News h₀ L s.heap tail) (hz : cps.length ≤ 1000) (B : Below A₀ base outer h₀) (X : (K0 w.params).In h₀) (T : Top q loose mean mg mb h₀) (hk : cs.kind = .function) (hd : dp + 5 < recursionLimit) (hu : un + 64 * 5 < cLine)
    (h : ∀ t' h' gs' tk', Fr h₀ L h' m → News h₀ L h' tail → ExtBut [] s.heap h' → Q (.str ⟨(stripOf cps).toArray⟩ t') { s with heap := h', gens := gs', toks := tk' }) :
    wpAny (model rw_sn0078_01.row.prog w) (ktrTop dp un gd cn cs L a ccd cl outer) (call (.ref 28) [.str ⟨cps.toArray⟩ t]) Q E s := by
  refine wpAny_call (c_strip w q mean mg mb loose tail cps t dp un gd cn cs a ccd cl outer A₀ base h₀ L m s Q E B F X N T hk hz hd hu ?_)
  rintro v news' h' gs' tk' ⟨t', rfl, rfl⟩ F' N' x
  exact h t' h' gs' tk' F' N' x
end
theorem one_cmp (l : List Nat) (c : Nat) (S : Str) (hS : S = ⟨[c].toArray⟩) : ((⟨l.toArray⟩ : Str) == S) = decide (l = [c]) := by subst hS; exact one_is l c
theorem lp_l : Str.ofString "(" = ⟨[40].toArray⟩ := by decide +kernel
theorem rp_l : Str.ofString ")" = ⟨[41].toArray⟩ := by decide +kernel
theorem chk_open {x : Int × List Nat} {r : List (Int × List Nat)} {n : Int} (h : x.2 = [40]) : checkGo (x :: r) n = checkGo r (n + 1) := by simp [checkGo, h]
theorem chk_skip {x : Int × List Nat} {r : List (Int × List Nat)} {n : Int} (h : ¬ x.2 = [40]) (h2 : ¬ x.2 = [41]) : checkGo (x :: r) n = checkGo r n := by simp [checkGo, h, h2]
theorem chk_close {x : Int × List Nat} {r : List (Int × List Nat)} {n : Int} (h : ¬ x.2 = [40]) (h2 : x.2 = [41]) (h3 : ¬ n - 1 < 0) : checkGo (x :: r) n = checkGo r (n - 1) := by
  show (if x.2 = [40] then _ else if x.2 = [41] then _ else _) = _
  rw [if_neg h, if_pos h2, if_neg h3]
theorem chk_no {x : Int × List Nat} {r : List (Int × List Nat)} {n : Int} (h : ¬ x.2 = [40]) (h2 : x.2 = [41]) (h3 : n - 1 < 0) : checkGo (x :: r) n = false := by
  show (if x.2 = [40] then _ else if x.2 = [41] then _ else _) = _
  rw [if_neg h, if_pos h2, if_pos h3]
theorem rg_ConS3_1 : True := by
  k_with_none
  (k_with "my_cell_enter" => (refine' code_defG (B := by k_asm) (F := by k_asm) (by k_asm) (N := by k_asm) (T := by k_asm) (hA := by exact rfl) (hf := by exact rfl) (hke := by assumption) (ho := by k_is) (hcd := by k_is) (hroom := by ktr_room) (hbind := by exact BindsTo.of_eq rfl) (hloc := by exact locs rfl) ?_ (hco := by exact rfl) (hgen := by exact rfl) (hk := by exact rfl) (hcell := by decide); k_whole; intro g' L' h' FG' F' N' B' X' T' GS'; (try dsimp only); (try k_lift B'); (try k_fold)))
  (k_with "eval Constant int" => (refine constI ?_))
  (k_with "eval Constant str" => (refine constS ?_))
  (k_with "eval Call" => ((show let Q9 := _; wpAny _ _ _ Q9 _ _); intro Q9; refine Call_ ?_))
  (k_with "eval Call Attribute" => ((show let Q9 := _; wpAny _ _ _ Q9 _ _); intro Q9; refine MethodCall_ ?_))
  (k_with "exec If" => ((show let Q9 := _; wpAny _ _ _ Q9 _ _); intro Q9; refine wpAny_If ?_))
  (k_with "exec Assign" => ((show let Q9 := _; wpAny _ _ _ Q9 _ _); intro Q9; refine wpAny_Assign_Name ?_))
  (k_with "exec AugAssign" => ((show let Q9 := _; wpAny _ _ _ Q9 _ _); intro Q9; refine wpAny_AugAssign_Name ?_))
  (k_with "eval BinOp" => ((show let Q9 := _; wpAny _ _ _ Q9 _ _); intro Q9; refine wpAny_BinOp ?_))
  (k_with "eval Compare" => ((show let Q9 := _; wpAny _ _ _ Q9 _ _); intro Q9; refine wpAny_Compare1 ?_))
  (k_with "isTrue Compare" => ((show let Q9 := _; wpAny _ _ _ Q9 _ _); intro Q9; refine wpAny_isTrue_Compare1 ?_))
  (k_with "eval Subscript" => ((show let Q9 := _; wpAny _ _ _ Q9 _ _); intro Q9; refine Subscript_ ?_))
  (k_with "my_k_all" => (exact TailOff.ne (by assumption)))
  (k_with "my_k_all" => (exact allLt_ne (by assumption)))
  (k_with "a" => (with_reducible assumption))
  (k_with "cn" => (first | k_extra "a" | (apply And.right; first | k_extra "a" | (apply And.right; first | k_extra "a" | (apply And.right; first | k_extra "a" | (apply And.right; first | k_extra "a" | (apply And.right; first | k_extra "a" | (apply And.right; first | k_extra "a" | (apply And.right; first | k_extra "a" | (apply And.right; first | k_extra "a" | (apply And.right; first | k_extra "a" | (apply And.right; first | k_extra "a" | (apply And.right; first | k_extra "a" | (apply And.right; first | k_extra "a" | (apply And.right; k_extra "a")))))))))))))))
  (k_with "cj" => (first | k_extra "cn" | (apply And.left; k_extra "cn")))
  (k_with "lt" => ((first | (with_reducible show @LT.lt Nat _ _ _) | (with_reducible show @LE.le Nat _ _ _)); first | k_extra "cj" | (with_reducible refine Nat.lt_of_succ_lt ?_; k_extra "cj") | (with_reducible refine Nat.le_of_lt ?_; first | k_extra "cj" | (refine Nat.lt_of_succ_lt ?_; k_extra "cj")) | (with_reducible refine Nat.lt_trans ?_ (by with_reducible assumption); k_extra "lt")))
  (k_with "lt0" => (first | with_reducible exact Nat.lt_succ_self _ | with_reducible assumption | (with_reducible refine Nat.lt_succ_of_lt ?_; k_extra "lt0")))
  (k_with "my_k_ne" => (refine neN ?_; (try dsimp only); first | (refine Nat.ne_of_lt ?_; k_extra "lt0") | (refine Nat.ne_of_gt ?_; k_extra "lt0") | (refine Nat.ne_of_lt ?_; k_extra "lt") | (refine Nat.ne_of_gt ?_; k_extra "lt")))
  (k_with "call builtin:len" => (k_here; (with_reducible show wpAny _ _ (call (Value.builtin "len") [Value.str _ _]) _ _ _); k_dflt (refine' len_l (hz := by (first | assumption | omega | (simp only [List.length_append, List.length_cons, List.length_nil, List.length_take, List.length_drop]; omega))) ?_); intro _ _))
  (k_with "binaryOp Add str str" => (k_here; (with_reducible show wpAny _ _ (binaryOp _ (Value.str _ _) (Value.str _ _)) _ _ _); k_dflt (refine' add_l (hX := by first | with_reducible rfl | exact bs_l | exact qt_l | exact em_l | exact ws_l | exact str_self _) (hY := by first | with_reducible rfl | exact bs_l | exact qt_l | exact em_l | exact ws_l | exact str_self _) (hz := by (first | assumption | omega | (simp only [List.length_append, List.length_cons, List.length_nil, List.length_take, List.length_drop]; omega))) ?_); intro _ _))
  (k_with "inplaceOp Add str str" => (k_here; (with_reducible show wpAny _ _ (inplaceOp _ (Value.str _ _) (Value.str _ _)) _ _ _); k_dflt (refine' iadd_l (hX := by first | with_reducible rfl | exact bs_l | exact qt_l | exact em_l | exact ws_l | exact str_self _) (hY := by first | with_reducible rfl | exact bs_l | exact qt_l | exact em_l | exact ws_l | exact str_self _) (hz := by (first | assumption | omega | (simp only [List.length_append, List.length_cons, List.length_nil, List.length_take, List.length_drop]; omega))) ?_); intro _ _))
  (k_with "subscriptTail Name Name str int" => (k_here; (with_reducible show wpAny _ _ (subscriptTail _ _ (Value.str _ _) (Value.int _ _)) _ _ _); k_dflt (refine' item_l (hX := by first | with_reducible rfl | exact bs_l | exact qt_l | exact em_l | exact ws_l | exact str_self _) (h0 := by (first | assumption | omega | (simp only [List.length_append, List.length_cons, List.length_nil, List.length_take, List.length_drop]; omega))) (h1 := by (first | assumption | omega | (simp only [List.length_append, List.length_cons, List.length_nil, List.length_take, List.length_drop]; omega))) (hz := by (first | assumption | omega | (simp only [List.length_append, List.length_cons, List.length_nil, List.length_take, List.length_drop]; omega))) ?_ (hs := by first | exact .inl (by with_unfolding_all rfl) | exact .inr (by with_unfolding_all rfl))); intro _))
  (k_with "subscriptTail Name Slice str ref" => (k_here; (with_reducible show wpAny _ _ (subscriptTail _ (PySem.Expr.Slice none (some _) none _) _ _) _ _ _); k_dflt (refine' sliceTo_l (F := by k_asm) (N := by k_asm) (h0 := by (first | assumption | omega | (simp only [List.length_append, List.length_cons, List.length_nil, List.length_take, List.length_drop]; omega))) (h1 := by (first | assumption | omega | (simp only [List.length_append, List.length_cons, List.length_nil, List.length_take, List.length_drop]; omega))) (hz := by (first | assumption | omega | (simp only [List.length_append, List.length_cons, List.length_nil, List.length_take, List.length_drop]; omega))) ?_ (hs := by with_unfolding_all rfl) (ht := by (intro _; with_unfolding_all rfl))); intro _ _ _ _ _))
  (k_with "subscriptTail Name Slice str ref" => (k_here; (with_reducible show wpAny _ _ (subscriptTail _ (PySem.Expr.Slice (some _) none none _) _ _) _ _ _); k_dflt (refine' sliceFrom_l (F := by k_asm) (N := by k_asm) (h0 := by (first | assumption | omega | (simp only [List.length_append, List.length_cons, List.length_nil, List.length_take, List.length_drop]; omega))) (h1 := by (first | assumption | omega | (simp only [List.length_append, List.length_cons, List.length_nil, List.length_take, List.length_drop]; omega))) (hz := by (first | assumption | omega | (simp only [List.length_append, List.length_cons, List.length_nil, List.length_take, List.length_drop]; omega))) ?_ (hs := by with_unfolding_all rfl) (ht := by (intro _; with_unfolding_all rfl))); intro _ _ _ _ _))
  (k_with "eval Name" => (k_here; (fail_if_success (with_reducible show wpAny _ _ (eval _ (compEnvC _ _ _ _)) _ _ _)); k_dflt (refine' nameX_L2 (hx := by rfl) (hk := by rfl) (hd := by rfl) (F := by k_asm) (hv := by (first | exact rfl | assumption | ((repeat refine (if_neg (by decide)).trans ?_); first | assumption | exact if_pos rfl))) ?_; k_whole)))
  (k_with "call ref" => (k_here; (with_reducible show wpAny _ _ (call (Value.ref 21) [Value.str _ _]) _ _ _); k_dflt (refine wpAny_call ?_; refine' gen_call (F := by k_asm) (N := by k_asm) (X := by k_asm) (T := by k_asm) (hroom := by first | ktr_room) ?_); intro G7 Lg7 o7 h7 gs7 tk7 F7 N7 lw7 lL7 lG7 g7; (try dsimp only)))
  (k_with "pyIter ref" => (k_here; k_dflt (refine' gen_iter2 (hh := by exact rfl) (g := by assumption) ?_)))
  (k_with "call builtin:list.append" => (k_here; (with_reducible show wpAny _ _ (call (Value.builtin _) [Value.ref _, _]) _ _ _); k_dflt (refine' append_K (F := by k_asm) (N := by k_asm) (U := by k_upd) ?_ (hsz := by (rw [sizeLine_eq]; simp only [List.size_toArray]; omega)); k_whole); walk_at "i81887c"))
  (k_with "call builtin:str.join" => (k_here; k_dflt (refine' join_res (N := by k_asm) (hm := by k_mem) (hs := by first | assumption | exact strs_snocL (by assumption) _ _ | exact strs_snocC (by assumption) _ _) (hz := by first | omega | (simp only [List.map_append, List.sum_append, List.map_cons, List.map_nil, List.sum_cons, List.sum_nil, List.length_drop]; omega)) ?_); intro _ _))
  (k_with "exec For Tuple Call cons nil" => (k_here; k_dflt (refine' wpAny_For ?_ (hs := by exact fun _ => rfl))))
  (k_with "call ref" => (k_here; (with_reducible show wpAny _ _ (call (Value.ref 28) [Value.str _ _]) _ _ _); k_dflt (refine' g_strip (F := by k_asm) (N := by k_asm) (hz := by assumption) (B := by k_asm) (X := by k_asm) (T := by k_asm) (hk := by first | exact rfl | assumption) (hd := by first | assumption | ktr_room) (hu := by first | assumption | ktr_units | ktr_room) ?_); intro t6 h6 gs6 tk6 F6 N6 x6))
  (k_with "loadName" => (k_here; k_dflt (refine' loadX_L (F := by k_asm) (hv := by (first | exact rfl | assumption | ((repeat refine (if_neg (by decide)).trans ?_); first | assumption | exact if_pos rfl))) ?_ (hk := by rfl) (hx := by rfl); k_whole)))
  (k_with "omega" => (first | k_extra "lt"))
  (k_with "i81887c" => (intro h' F' N'; (try simp only [List.push_toArray] at N'); revert h' F' N'; intros))
  trivial
set_option maxHeartbeats 4000000 in
theorem c_check (w : World) (q : Program) (mean : ExcName → Option Value) (mg mb : Str → Option Value) (loose : List Str) (tail : List (Addr × Obj)) (cps : List Nat) (t : Tok) :
  ClG 7 rw_sn0078_01.row.prog w (K0 w.params) q loose mean mg mb 35 tail [] (cps.length ≤ 1000) [.str ⟨cps.toArray⟩ t]
    (fun v news' => v = .bool (checkOf cps) ∧ news' = tail) := by
  k_fill
  dsimp only [ClG]; intros; rename_i hz _ _ hret
  k_dflt cell_enter
  k_steps
  refine' forGen (nx₀ := tail) (Lg := Lg7) (X := escI 0 false (stripOf cps)) ?hh ?hnl ?hr ?hxi ?hxc ?hp ?fF ?fN ?fl ?fL ?gg
    (fun rem m nx => nx = tail ∧ ∃ (n : Int) (tn : Tok), m (Str.ofString "opens") = some (.int n tn) ∧ checkGo (escI 0 false (stripOf cps)) 0 = checkGo rem n) ⟨rfl, 0, _, ?i1, rfl⟩ ?adr ?turn ?done
  case hh => exact rfl
  case fF => exact F7
  case fN => exact fun p hp => N7 p (.tail _ hp)
  case fl => exact lw7
  case fL => exact lL7
  case gg => exact g7 _ rfl
  case hnl => exact T'.nolimit
  case hr => ktr_room
  case hxi => exact rfl
  case hxc => exact rfl
  case hp => exact rfl
  case i1 => exact if_pos rfl
  case adr =>
    rintro rem m nx ⟨rfl, _⟩ p hp
    exact ⟨p, hp, rfl⟩
  case turn =>
    rintro x rem a b m₁ nx pp hh gs tkk ⟨rfl, n, tn, hm1, hgo⟩ hpp F5 N5 Q' hQ E₁
    k_steps
    · have h4 := (one_cmp x.2 40 _ lp_l).symm.trans (by assumption)
      refine' hQ.next _ _ _ _ (by assumption) (by assumption) ⟨rfl, n + 1, _, ?a1, hgo.trans (chk_open (of_decide_eq_true h4))⟩
      case a1 => (try dsimp only); (first | assumption | exact if_pos rfl | ((repeat refine (if_neg (by decide)).trans ?_); first | assumption | exact if_pos rfl))
    · have h4 := (one_cmp x.2 40 _ lp_l).symm.trans (by assumption)
      have h5 := (one_cmp x.2 41 _ rp_l).symm.trans (by assumption)
      refine hQ.ret _ _ ?_
      (try dsimp only)
      k_steps
      refine' hret _ _ _ _ _ ⟨congrArg Value.bool ?f1, rfl⟩ (by k_asm) ?f2 ?f3
      case f1 => exact (hgo.trans (chk_no (of_decide_eq_false h4) (of_decide_eq_true h5) (by assumption))).symm
      case f2 => exact news_sub (by assumption) fun p hp => by repeat (first | assumption | exact List.mem_append_left _ hp | refine List.mem_cons_of_mem _ ?_)
      case f3 => exact (clm_ext (by assumption) (by assumption) (by assumption) (by assumption) fun p hp => .inr (by first | assumption | exact List.mem_append_left _ hp))
    · have h4 := (one_cmp x.2 40 _ lp_l).symm.trans (by assumption)
      have h5 := (one_cmp x.2 41 _ rp_l).symm.trans (by assumption)
      refine' hQ.next _ _ _ _ (by assumption) (by assumption) ⟨rfl, n - 1, _, ?b1, hgo.trans (chk_close (of_decide_eq_false h4) (of_decide_eq_true h5) (by assumption))⟩
      case b1 => (try dsimp only); (first | assumption | exact if_pos rfl | ((repeat refine (if_neg (by decide)).trans ?_); first | assumption | exact if_pos rfl))
    · have h4 := (one_cmp x.2 40 _ lp_l).symm.trans (by assumption)
      have h5 := (one_cmp x.2 41 _ rp_l).symm.trans (by assumption)
      refine' hQ.next _ _ _ _ (by assumption) (by assumption) ⟨rfl, n, _, ?c1, hgo.trans (chk_skip (of_decide_eq_false h4) (of_decide_eq_false h5))⟩
      case c1 => (try dsimp only); (first | assumption | exact if_pos rfl | ((repeat refine (if_neg (by decide)).trans ?_); first | assumption | exact if_pos rfl))
  case done =>
    rintro m₁ nx hh gs tkk ⟨rfl, n, tn, hm1, hgo⟩ F5 N5
    dsimp only
    k_steps
    refine' hret _ _ _ _ _ ⟨congrArg Value.bool ?g1, rfl⟩ (by k_asm) ?g2 ?g3
    case g1 => exact hgo.symm
    case g2 => exact news_sub (by assumption) fun p hp => by repeat (first | assumption | refine List.mem_cons_of_mem _ ?_)
    case g3 => exact (clm_ext (by assumption) (by assumption) (by assumption) (by assumption) fun p hp => .inr (by repeat (first | assumption | refine List.mem_cons_of_mem _ ?_)))
theorem rz_Lst : True := by k_with_none; trivial
local macro_rules | `(tactic| omega) => `(tactic| omega (config := {}))
section
variable {prog : Program} {w : World} {A : Around} {E : Value → Shared → Prop} {s : Shared} {h₀ : Heap} {L D : Addr} {m : Str → Option Value} {news news' : List (Addr × Obj)} {vs : List Value} {n : Nat} {k : Int} {t u : Tok} {v : Value}
theorem set_l {Q : Unit → Shared → Prop} (F : Fr h₀ L s.heap m) (N : News h₀ L s.heap news) (U : Upd D (listOf vs.toArray n) (listOf (vs.set k.toNat v).toArray n) news news') (h0 : 0 ≤ k) (h1 : k < vs.length) (hz : vs.length ≤ 1000)
    (h : ∀ h', Fr h₀ L h' m → News h₀ L h' news' → Q () { s with heap := h' }) : wpAny (model prog w) A (setItem (.ref D) (.int k t) v) Q E s := by
  obtain ⟨pre, post, rfl, rfl, a, b⟩ := U.split
  have z := N (D, listOf vs.toArray n) (List.mem_append.mpr (.inr (.head _)))
  refine ki_setAt z.1 h0 (by omega) (by simp; omega) (h _ (F.change (Heap.SameBut.update ..) z.2.1 z.2.2) (ki_turn _ N a b ?_ ?_))
  · show vs.toArray.setIfInBounds k.toNat v = (vs.set k.toNat v).toArray
    simp
  · rw [if_pos (by simp)]
theorem strs_set {ys : List Str} (h : StrsAre vs ys) (y : Str) (i : Nat) : StrsAre (vs.set i (.str y t)) (ys.set i y) := by
  induction h generalizing i with
  | nil => exact .nil
  | cons s t' h ih => cases i with
    | zero => exact .cons y t h
    | succ i => exact .cons s t' (ih i)
theorem strs_at {ys : List Str} (h : StrsAre vs ys) {i : Nat} (hi : i < ys.length) : ∃ t, vs[i]? = some (.str (ys.getD i ⟨#[]⟩) t) := by
  induction h generalizing i with
  | nil => simp at hi
  | cons s t' h ih => cases i with
    | zero => exact ⟨t', rfl⟩
    | succ i =>
      obtain ⟨t, e⟩ := ih (i := i) (by simpa using hi)
      exact ⟨t, by simpa using e⟩
theorem two_sets {h : Heap} {R : List (Addr × Obj)} {ys : List Value} {l : List Str} {a b : Nat} {y z : Str} {t u : Tok} (N : News h₀ L h ((D, listOf ((ys.set a (.str y t)).set b (.str z u)).toArray n) :: R)) (hys : StrsAre ys l) : ∃ vs2, News h₀ L h ((D, listOf vs2.toArray n) :: R) ∧ StrsAre vs2 ((l.set a y).set b z) :=
  ⟨_, N, strs_set (strs_set hys y a) z b⟩
theorem txt_item {value slice : PySem.Expr} {ls : List (List Nat)} {Q : Value → Shared → Prop} (N : News h₀ L s.heap news) (hm : (D, listOf vs.toArray n) ∈ news) (S : StrsAre vs (ls.map fun l => ⟨l.toArray⟩)) (h0 : 0 ≤ k) (h1 : k < ls.length) (hz : ls.length ≤ 1000) (h : ∀ t, Q (.str ⟨(ls.getD k.toNat []).toArray⟩ t) s)
    (hs : subscripted slice false (.ref D) (.int k u) = operate [.ref D, .int k u] (getItem (.ref D) (.int k u)) := by with_unfolding_all rfl) :
    wpAny (model prog w) A (subscriptTail value slice (.ref D) (.int k u)) Q E s := by
  have hL : s.heap.IsList D vs.toArray := ⟨_, (N _ hm).1, rfl, n, rfl⟩
  have hi : k.toNat < ls.length := by omega
  obtain ⟨t, e⟩ := strs_at S (i := k.toNat) (by rw [List.length_map]; exact hi)
  have e2 : (ls.map fun l => (⟨l.toArray⟩ : Str)).getD k.toNat ⟨#[]⟩ = ⟨(ls.getD k.toNat []).toArray⟩ := by simp [List.getD, hi]
  rw [e2] at e
  exact tail_any hL.typeIs slot_list_getitem.lookup (wpAny_getItem_list hL h0 (by omega) (by simpa using e) (h t)) hs
theorem len_led {ls : List (List Nat)} {Q : Value → Shared → Prop} (N : News h₀ L s.heap news) (hm : (D, listOf vs.toArray n) ∈ news) (S : StrsAre vs (ls.map fun l => ⟨l.toArray⟩)) (hz : ls.length ≤ 1000) (h : ∀ u tk, Q (.int (ls.length : Int) u) { s with toks := tk }) : wpAny (model prog w) A (call (.builtin "len") [.ref D]) Q E s := by
  have hL : s.heap.IsList D vs.toArray := ⟨_, (N _ hm).1, rfl, n, rfl⟩
  refine len_strsA hL S (by rw [List.length_map]; omega) ?_
  rw [List.length_map]
  exact h _ _
end
noncomputable def cnt1 (c : Nat) (ls : List (List Nat)) : Int := ((ls.filter fun l => decide (l = [c])).length : Int)
theorem cnt_in (S : Str) (c : Nat) (hS : S = ⟨[c].toArray⟩) : ∀ ls : List (List Nat), Spec.countIn (PyData.str S) ((ls.map fun l => (⟨l.toArray⟩ : Str)).map PyData.str) = cnt1 c ls
  | [] => rfl
  | l :: r => by
    have ih := cnt_in S c hS r
    subst hS
    have e : Spec.same (PyData.str ⟨l.toArray⟩) (PyData.str ⟨[c].toArray⟩) = decide (l = [c]) := one_is l c
    show (if Spec.same _ _ = true then (1 : Int) else 0) + Spec.countIn _ _ = _
    rw [ih, e]
    unfold cnt1
    by_cases h : l = [c] <;> simp [h] <;> omega
theorem cnt_lp (ls : List (List Nat)) : Spec.countIn (PyData.str (Str.ofString "(")) ((ls.map fun l => (⟨l.toArray⟩ : Str)).map PyData.str) = cnt1 40 ls := cnt_in _ _ lp_l ls
theorem cnt_rp (ls : List (List Nat)) : Spec.countIn (PyData.str (Str.ofString ")")) ((ls.map fun l => (⟨l.toArray⟩ : Str)).map PyData.str) = cnt1 41 ls := cnt_in _ _ rp_l ls
theorem cnt1_le (c : Nat) (ls : List (List Nat)) : 0 ≤ cnt1 c ls ∧ cnt1 c ls ≤ ls.length := ⟨Int.natCast_nonneg _, Int.ofNat_le.mpr (List.length_filter_le _ _)⟩
theorem foldl_rep (c : Nat) : ∀ (k : Nat) (acc : Array Nat), (List.replicate k #[c]).foldl (· ++ ·) acc = acc ++ (List.replicate k c).toArray
  | 0, acc => by simp
  | k + 1, acc => by
    rw [List.replicate_succ, List.foldl_cons, foldl_rep c k, List.replicate_succ]
    apply Array.toList_inj.mp
    simp
theorem mul_is (c : Nat) (n : Int) : Txt.mul ⟨[c].toArray⟩ n = ⟨(List.replicate n.toNat c).toArray⟩ := by
  unfold Txt.mul
  by_cases h : n < 1
  · rw [if_pos h, show n.toNat = 0 from by omega]; rfl
  · rw [if_neg h]
    have hl : ((⟨[c].toArray⟩ : Str).length == 0) = false := rfl
    rw [hl, Bool.or_false]
    by_cases h1 : n = 1
    · subst h1; rfl
    · rw [if_neg (by simpa using h1)]
      show Str.mk _ = Str.mk _
      congr 1
      have := foldl_rep c n.toNat #[]
      simpa using this
theorem mul_l {prog : Program} {w : World} {A : Around} {E : Value → Shared → Prop} {s : Shared} {X : Str} {c : Nat} {n : Int} {t u : Tok} {Q : Value → Shared → Prop} (hX : X = ⟨[c].toArray⟩) (h0 : -100 ≤ n) (h1 : n ≤ 100) (h : ∀ t' k, Q (.str ⟨(List.replicate n.toNat c).toArray⟩ t') { s with toks := k }) :
    wpAny (model prog w) A (binaryOp .Mult (.str X t) (.int n u)) Q E s := by
  subst hX
  refine SB.mul ⟨by simp; omega, fun hn _ hgt => ?_, fun hn _ => ?_⟩ fun t' k => by rw [mul_is]; exact h t' k
  · have hlen : ((⟨[c].toArray⟩ : Str).length : Int) = 1 := rfl
    rw [hlen] at hgt
    have : 1 ≤ (2 ^ 63 - 1 : Int) / n := Int.le_ediv_of_mul_le (by omega) (by omega)
    omega
  · have hlen : (⟨[c].toArray⟩ : Str).length = 1 := rfl
    rw [hlen, Nat.one_mul]
    unfold Builtin.Str.tooLong
    rw [sizeLine_eq]
    simp; omega
noncomputable def leadOf (one two : Int) : List Nat := if one = 0 ∧ two = 1 then [34, 41, 34] else []
theorem lq_l : Str.ofString "\")\"" = ⟨[34, 41, 34].toArray⟩ := by decide +kernel
theorem lp2_l : Str.ofString "((" = ⟨[40, 40].toArray⟩ := by decide +kernel
theorem rg_ConN0_1 : True := by
  k_with_none
  (k_with "eval Name" => (k_here; (fail_if_success (with_reducible show wpAny _ _ (eval _ (compEnvC _ _ _ _)) _ _ _)); k_dflt (refine' nameX_L2 (hx := by rfl) (hk := by rfl) (hd := by rfl) (F := by k_asm) (hv := by (first | exact rfl | assumption | ((repeat refine (if_neg (by decide)).trans ?_); first | assumption | exact if_pos rfl))) ?_; k_whole)))
  (k_with "eval Constant int" => (refine constI ?_))
  (k_with "eval Constant str" => (refine constS ?_))
  (k_with "eval Call" => ((show let Q9 := _; wpAny _ _ _ Q9 _ _); intro Q9; refine Call_ ?_))
  (k_with "eval Call Attribute" => ((show let Q9 := _; wpAny _ _ _ Q9 _ _); intro Q9; refine MethodCall_ ?_))
  (k_with "exec If" => ((show let Q9 := _; wpAny _ _ _ Q9 _ _); intro Q9; refine wpAny_If ?_))
  (k_with "exec Assign" => ((show let Q9 := _; wpAny _ _ _ Q9 _ _); intro Q9; refine wpAny_Assign_Name ?_))
  (k_with "exec AugAssign" => ((show let Q9 := _; wpAny _ _ _ Q9 _ _); intro Q9; refine wpAny_AugAssign_Name ?_))
  (k_with "eval BinOp" => ((show let Q9 := _; wpAny _ _ _ Q9 _ _); intro Q9; refine wpAny_BinOp ?_))
  (k_with "eval Compare" => ((show let Q9 := _; wpAny _ _ _ Q9 _ _); intro Q9; refine wpAny_Compare1 ?_))
  (k_with "isTrue Compare" => ((show let Q9 := _; wpAny _ _ _ Q9 _ _); intro Q9; refine wpAny_isTrue_Compare1 ?_))
  (k_with "eval Subscript" => ((show let Q9 := _; wpAny _ _ _ Q9 _ _); intro Q9; refine Subscript_ ?_))
  trivial
set_option maxHeartbeats 4000000 in
theorem lead_if {w : World} {one two : Int} {t1 t2 : Tok} {tail : List (Addr × Obj)}
  {h₀ hb : Heap} {L : Addr} {A : Around} {m : Str → Option Value} {s : Shared} {e : PySem.Expr} {sc : Scope} {cl : List (Str × Addr)} {Q : Value → Shared → Prop} {E : Value → Shared → Prop}
  (he : asgAt 70 5 = some e) (hsc : scAt 70 = some sc) (F : Fr h₀ L s.heap m) (X : (K0 w.params).In hb) (N : News h₀ L s.heap tail)
  (m1 : m (Str.ofString "one") = some (.int one t1)) (m2 : m (Str.ofString "two") = some (.int two t2))
  (h : ∀ t tk, Q (.str ⟨(leadOf one two).toArray⟩ t) { s with toks := tk }) :
    wpAny (model rw_sn0078_01.row.prog w) A (eval e (envX (Str.ofString "_law_taken") sc L 194 (.ref 193) cl)) Q E s := by
  revert X; k_fill; intro X
  have h1 : asgAt 70 5 = some _ := rfl
  have e1 := he.symm.trans h1
  have h2 : scAt 70 = some _ := rfl
  have e2 := hsc.symm.trans h2
  clear he hsc h1 h2
  injection e1 with e1
  injection e2 with e2
  subst e1 e2
  k_steps
  all_goals (first
    | (rw [lq_l]; have hl : leadOf one two = [34, 41, 34] := if_pos ⟨by omega, by omega⟩; rw [← hl]; exact h _ _)
    | (rw [em_l]; have hl : leadOf one two = [] := if_neg (by omega); rw [← hl]; exact h _ _))
theorem rz_ConA : True := by k_with_none; trivial
section
variable {prog : Program} {w : World} {A : Around} {E : Value → Shared → Prop} {s : Shared} {m : Str → Option Value} {env : Env} {scope : Scope} {cl : List (Str × Addr)} {x y : Str} {ifs : List PySem.Expr} {elt : PySem.Expr}
noncomputable def AssignQ (L : Addr) (y : Str) (Q : Flow → Shared → Prop) (v : Value) (s' : Shared) : Prop :=
  ∃ h₀ m news D, v = .ref D ∧ @LT.lt Nat _ L D ∧ Fr h₀ L s'.heap m ∧ News h₀ L s'.heap news ∧ (∀ p ∈ news, @LE.le Nat _ p.1 D) ∧
    ∀ h' tk, Fr h₀ L h' (fun z => if z = y then some (.ref D) else m z) → News h₀ L h' news → Q .next { s' with heap := h', toks := tk }
theorem compJ_assign {iter : PySem.Expr} {px py pos spos : Pos} {Q : Flow → Shared → Prop}
    (hsw : swapsWith (.ListComp elt [⟨.Name x px, iter, ifs, 0⟩] scope pos) (some (.Name y py)) spos.line env = pure true)
    (hclos : closureFor scope env = pure cl) (hcell : ∀ y ∈ scope.names, y.2 ≠ .cell) (hkind : scope.kind = .function)
    (hnames : ∀ y ∈ scope.names, y.2 = .local → scope.names.lookup y.1 = some .local) (hx : scope.names.lookup x = some .local)
    (hy : env.kindOf y = some .local) (hp : (env.scope.kind == .class || (env.scope.kind == .module && env.locals != env.globals)) = false)
    (h : wpAny (model prog w) A (eval iter env) (fun xv s₁ => wpAny (model prog w) A (pyIter xv) (fun it s₂ => CompJ prog w A env scope cl x ifs elt (AssignQ env.locals y Q) it s₂) E s₁) E s)
    (hs : ∀ x, foldedSetIterable iter env x = pure x := by intro _; rfl) :
    wpAny (model prog w) A (exec (.Assign [.Name y py] (.ListComp elt [⟨.Name x px, iter, ifs, 0⟩] scope pos) spos) env) Q E s := by
  rw [exec_Assign_Name_used _ _ _ _ hsw]
  refine wpAny_bind (wpAny_standAt (wpAny_bind ?_))
  show wpAny _ A (do let _ ← comprehension (.ListComp elt [⟨.Name x px, iter, ifs, 0⟩] scope pos) scope env _ (newList []) false (eval iter env) (some (assign (.Name y py) env))) _ _ s
  refine wpAny_bind (wpAny_mono (wpAny_comprehension_free (use := some (assign (.Name y py) env)) (Q := fun _ s' => Q .next s') rfl hs hclos hkind hnames
    (wpAny_mono h (fun xv s₁ h₁ => wpAny_mono h₁ (fun it s₂ h₂ => ?_) fun _ _ e => e) fun _ _ e => e)) (fun _ s' hq => wpAny_pure (wpAny_pure hq)) fun _ _ e => e)
  obtain ⟨h₀, I, m, nx₀, n, fp, P, St, o, J, rfl, W, hobj, hsz, hst, F, N, hIn, hj0, hadr, hlen, hsty, turn, done⟩ := h₂
  refine wpAny_newObj_type (wpAny_newFunctionEnv hcell (by intro y hy; simp at hy) (fun h₁ hns₁ hsb₁ => ?_) hkind)
  dsimp only at hns₁ hsb₁ ⊢
  have N₁ := News.push F N (listOf #[] 0)
  have F₁ := F.push (listOf #[] 0)
  generalize hH2 : s₂.heap.push { cls := .type "list", dict := none, data := .seq ([] : List Value).toArray } = H2 at hns₁ hsb₁ ⊢
  change s₂.heap.push (listOf #[] 0) = H2 at hH2
  rw [hH2] at N₁ F₁
  have hC : H2.objs.size = s₂.heap.objs.size + 1 := by rw [← hH2, Heap.size_push]
  have hDC : s₂.heap.objs.size < H2.objs.size := by rw [hC]; exact Nat.lt_succ_self _
  have hLC : H2.objs.size ≠ env.locals := Nat.ne_of_gt F₁.ns.lt
  have hC0 : h₀.get? H2.objs.size = none := next_is_new F₁
  have old : ∀ b o, H2.get? b = some o → h₁.get? b = some o := fun b o e => hsb₁.extBut b o (Nat.ne_of_lt (Heap.lt_size e)) (Heap.get?_push_of_some _ e)
  obtain ⟨oC, hoC⟩ : ∃ o, h₁.get? H2.objs.size = some o := by obtain ⟨o, _, _, e, _⟩ := id hns₁; exact ⟨o, e⟩
  have F₂ := F₁.keeps old
  have N₂ := N₁.grown old
  have N₃ : News h₀ env.locals h₁ ((s₂.heap.objs.size, listOf #[] 0) :: (H2.objs.size, oC) :: (I, o) :: nx₀) := fun p hp => by
    rcases List.mem_cons.mp hp with rfl | hp
    · exact N₂ _ (.head _)
    · rcases List.mem_cons.mp hp with rfl | hp
      · exact ⟨hoC, hLC, hC0⟩
      · exact N₂ _ (.tail _ hp)
  have hst₁ : St 0 h₁ := W.frame _ _ _ hst fun b _ o e => old b o (hH2 ▸ Heap.get?_push_of_some _ e)
  have loop : ∀ s₃ : Shared, s₃ = { s₂ with heap := h₁, toks := s₂.toks + ([] : List (Str × Value)).length } →
      codeAny (model prog w) A (.compLoop (.ListComp elt [⟨.Name x px, iter, ifs, 0⟩] scope pos) 0 (.ref I) (.ref s₂.heap.objs.size) (compEnvC scope cl H2.objs.size env))
        (compPost (model prog w) A E (some (assign (.Name y py) env)) (fun _ s' => Q .next s') (.ref s₂.heap.objs.size) H2.objs.size) s₃ := by
    rintro s₃ rfl
    refine compJ_loop (s := s₂) W hobj hsz (lookup_relabel_local hx) (by simp [compEnvC, relabel, hkind]) (Nat.le_refl _) hDC (Heap.lt_size (N _ (.head _)).1) hLC hst₁ F₂ (fun p hp => Heap.lt_size (N p (.tail _ hp)).1) hIn N₃ hns₁ hj0 hadr hlen hsty turn fun nD ys nx h gs tk oC mC hj F' hC' N' => ?_
    have q := done _ nD ys nx h gs tk hj (Nat.le_refl _) F' fun p hp => N' p ((List.mem_cons.mp hp).elim (fun e => e ▸ .head _) fun hp => .tail _ (.tail _ hp))
    obtain ⟨h₁', m', news, D', e, hLD, F₁', N₁', hle, fin⟩ := q
    cases e
    show wpAny _ A (assign (.Name y py) env (.ref s₂.heap.objs.size)) _ _ _
    refine wpAny_assign_Name (wpAny_storeName_local hy F₁'.ns (fun h₂ hn₂ hs₂ => ?_) hp)
    have hL₀ : h₁'.get? env.locals = none := Heap.get?_none_of_le F₁'.above
    have hC₀ : h₁'.get? H2.objs.size = none := Heap.get?_none_of_le (Nat.le_trans F₁'.above (Nat.le_of_lt (Nat.lt_trans hLD hDC)))
    have F₃ : Fr h₁' env.locals h₂ (fun z => if z = y then some (.ref s₂.heap.objs.size) else m' z) := ⟨hn₂, fun b o e => hs₂.extBut b o (fun q => by rw [q, hL₀] at e; cases e) (F₁'.keep b o e), F₁'.above⟩
    refine ⟨mC, hC'.sameBut hs₂ hLC, fun h'' hs'' => fin h'' _ (F₃.change hs'' hLC hC₀) (fun p hp => ?_)⟩
    have z : h₂.get? p.1 = some p.2 := hs₂.extBut _ _ (N₁' p hp).2.1 (N₁' p hp).1
    exact ⟨hs''.extBut _ _ (Nat.ne_of_lt (Nat.lt_of_le_of_lt (hle p hp) hDC)) z, (N₁' p hp).2⟩
  exact codeAny_compStart_list (loop _ rfl) (W.self 0 _ _ _ hst₁ (loop _ rfl))
end
section
variable {prog : Program} {w : World} {A : Around} {E : Value → Shared → Prop} {s : Shared} {h₀ : Heap} {L D : Addr} {m : Str → Option Value} {news : List (Addr × Obj)} {vs : List Value} {n : Nat} {t u : Tok}
theorem strs_take {ls : List (List Nat)} (S : StrsAre vs (ls.map fun l => (⟨l.toArray⟩ : Str))) (k : Nat) : StrsAre (vs.take k) ((ls.take k).map fun l => ⟨l.toArray⟩) := by
  rw [List.map_take]
  generalize ls.map (fun l => (⟨l.toArray⟩ : Str)) = ys at S
  induction S generalizing k with
  | nil => simp; exact .nil
  | cons s t h ih => cases k with
    | zero => exact .nil
    | succ k => exact .cons s t (ih k)
theorem max_min {y : Int} (h : 0 ≤ y) (n : Nat) : max 0 (min y (n : Int)) = ((min y.toNat n : Nat) : Int) := by
  obtain ⟨m, rfl⟩ := Int.eq_ofNat_of_zero_le h
  rw [Int.toNat_natCast]
  rcases Nat.le_total m n with h | h
  · rw [Nat.min_eq_left h, Int.min_eq_left (Int.ofNat_le.mpr h)]; exact Int.max_eq_right (Int.natCast_nonneg _)
  · rw [Nat.min_eq_right h, Int.min_eq_right (Int.ofNat_le.mpr h)]; exact Int.max_eq_right (Int.natCast_nonneg _)
theorem pick_upto {y : Int} (h : 0 ≤ y) : (slicePick vs.toArray none (some y) none).toList = vs.take y.toNat := by
  have e : sliceBounds none (some y) none vs.toArray.size = (((0 : Nat) : Int), ((min y.toNat vs.toArray.size : Nat) : Int), 1) := by
    simp only [sliceBounds, Option.getD_none, show (1 : Int) > 0 by decide, if_true, if_neg (show ¬ (y < 0) by omega)]
    congr 1
    congr 1
    exact max_min h _
  rw [kmk_pick_nat _ e]
  show (vs.drop 0).take (min y.toNat vs.toArray.size - 0) = _
  rw [List.drop_zero, Nat.sub_zero, List.size_toArray, kmk_take_min]
theorem slice_strs {value slice : PySem.Expr} {ls : List (List Nat)} {y : Int} {Q : Value → Shared → Prop} (F : Fr h₀ L s.heap m) (N : News h₀ L s.heap news) (hm : (D, listOf vs.toArray n) ∈ news) (S : StrsAre vs (ls.map fun l => (⟨l.toArray⟩ : Str))) (h0 : 0 ≤ y) (hz : ls.length ≤ 1000)
    (h : ∀ D' ws h', Fr h₀ L h' m → News h₀ L h' ((D', listOf (List.toArray ws) 0) :: news) → (∀ p ∈ news, p.1 < D') → StrsAre ws ((ls.take y.toNat).map fun l => ⟨l.toArray⟩) → Q (.ref D') { s with heap := h' })
    (hs : subscripted slice false (.ref D) (.ref s.heap.objs.size) = operate [.ref s.heap.objs.size, .ref D] (getItem (.ref D) (.ref s.heap.objs.size))) (ht : ∀ r, letTemporaryGo value (.ref D) r = pure ()) :
    wpAny (model prog w) A (subscriptTail value slice (.ref D) (.ref s.heap.objs.size)) Q E { s with heap := s.heap.push { cls := .type "slice", data := .fields #[.none, .int y u, .none] } } := by
  have hL : s.heap.IsList D vs.toArray := ⟨_, (N _ hm).1, rfl, n, rfl⟩
  have hl := strs_len S
  rw [List.length_map] at hl
  exact kmk_slice_lit F N hL .none (.int _ _) (pick_upto h0) (fun D' h' F' N' l1 => h D' _ h' F' N' l1 (strs_take S _)) hs ht (by rw [sizeLine_eq, List.size_toArray]; omega)
theorem count_led {ls : List (List Nat)} {X : Str} {c : Nat} {Q : Value → Shared → Prop} (N : News h₀ L s.heap news) (hm : (D, listOf vs.toArray n) ∈ news) (S : StrsAre vs (ls.map fun l => (⟨l.toArray⟩ : Str))) (hX : X = ⟨[c].toArray⟩)
    (h : ∀ u tk, Q (.int (cnt1 c ls) u) { s with toks := tk }) : wpAny (model prog w) A (call (.builtin "list.count") [.ref D, .str X t]) Q E s := by
  have hL : s.heap.IsList D vs.toArray := ⟨_, (N _ hm).1, rfl, n, rfl⟩
  refine count_list_strs hL S ?_
  rw [cnt_in _ _ hX]
  exact h _ _
end
noncomputable def aheadOf (ms : List (List Nat)) (m : Nat) : Int := cnt1 41 (ms.take m) - cnt1 40 (ms.take m)
local macro_rules | `(tactic| omega) => `(tactic| k_extra "omega")
theorem rg_ConN1_0 : True := by
  k_with_none
  (k_with "omega" => (first | lia))
  trivial
section
variable {w : World} {q : Program} {mean : ExcName → Option Value} {mg mb : Str → Option Value} {loose : List Str} {tail : List (Addr × Obj)}
  {dp un : Nat} {gd : Option (List Code)} {cn : Str} {cs : Scope} {a : Addr} {ccd : Value} {cl : List (Str × Addr)} {outer : List Env} {A₀ : Around} {base h₀ : Heap} {L : Addr} {m : Str → Option Value} {s : Shared} {E : Value → Shared → Prop}
theorem g_check {cps : List Nat} {t : Tok} {Q : Value → Shared → Prop} (F : Fr h₀ L s.heap m) (N : News h₀ L s.heap tail) (hz : cps.length ≤ 1000) (B : Below A₀ base outer h₀) (X : (K0 w.params).In h₀) (T : Top q loose mean mg mb h₀) (hk : cs.kind = .function) (hd : dp + 7 < recursionLimit) (hu : un + 64 * 7 < cLine)
    (h : ∀ h' gs' tk', Fr h₀ L h' m → News h₀ L h' tail → ExtBut [] s.heap h' → Q (.bool (checkOf cps)) { s with heap := h', gens := gs', toks := tk' }) :
    wpAny (model rw_sn0078_01.row.prog w) (ktrTop dp un gd cn cs L a ccd cl outer) (call (.ref 35) [.str ⟨cps.toArray⟩ t]) Q E s := by
  refine wpAny_call (c_check w q mean mg mb loose tail cps t dp un gd cn cs a ccd cl outer A₀ base h₀ L m s Q E B F X N T hk hz hd hu ?_)
  rintro v news' h' gs' tk' ⟨rfl, rfl⟩ F' N' x
  exact h h' gs' tk' F' N' x
end
theorem ns_same {h h' : Heap} {C : Addr} {mC : Str → Option Value} {o : Obj} (H : h.Ns C mC) (e : h.get? C = some o) (e' : h'.get? C = some o) : h'.Ns C mC := by
  unfold Heap.Ns at *
  rw [e] at H
  rw [e']
  exact H
theorem lead_le (one two : Int) : (leadOf one two).length ≤ 3 := by unfold leadOf; split <;> simp
noncomputable def faceAt (k : Int) (r : Nat) : List Nat := if r = 2 then [92] ++ [([40, 41] : List Nat).getD (k.fmod 2).toNat 0] else []
noncomputable def facesL (k : Int) : List (List Nat) := (List.range k.toNat).map (faceAt k)
noncomputable def facesP (k one two : Int) : List (List Nat) := ((facesL k).set one.toNat [40]).set two.toNat [41]
noncomputable def marksOf (k one two : Int) (ns : List Int) : List (List Nat) := ns.map fun n => (facesP k one two).getD (n.fmod k).toNat []
noncomputable def rowTxt (op : List Nat) (k one two : Int) (ns : List Int) : List Nat := leadOf one two ++ op ++ (marksOf k one two ns).flatten ++ List.replicate (1 + cnt1 40 (marksOf k one two ns) - cnt1 41 (marksOf k one two ns)).toNat 41
noncomputable def aheads (k one two : Int) (ns : List Int) : List Int := (List.range ((marksOf k one two ns).length + 1)).map (aheadOf (marksOf k one two ns))
noncomputable def TakenOk (k one two : Int) (ns : List Int) (r : Bool) : Prop :=
  checkOf (rowTxt [40] k one two ns) = r ∧ (∀ M ∈ aheads k one two ns, (∀ a, a ∈ aheads k one two ns → a ≤ M) → decide (M < 2) = r) ∧ (r = true → leadOf one two ≠ [] → checkOf (rowTxt [40, 40] k one two ns) = false)
theorem taken_no1 {k one two : Int} {ns : List Int} {r : Bool} (ok : TakenOk k one two ns r) {M : Int} (hm : M ∈ aheads k one two ns) (hM : ∀ a, a ∈ aheads k one two ns → a ≤ M) (h : (checkOf (leadOf one two ++ [40] ++ (marksOf k one two ns).flatten ++ List.replicate (1 + cnt1 40 (marksOf k one two ns) - cnt1 41 (marksOf k one two ns)).toNat 41) != decide (M < 2)) = true) : False := by
  have h1 := ok.1
  unfold rowTxt at h1
  rw [h1, ok.2.1 M hm hM] at h
  simp at h
theorem taken_no2 {k one two : Int} {ns : List Int} {r : Bool} (ok : TakenOk k one two ns r) (h1 : checkOf (leadOf one two ++ [40] ++ (marksOf k one two ns).flatten ++ List.replicate (1 + cnt1 40 (marksOf k one two ns) - cnt1 41 (marksOf k one two ns)).toNat 41) = true)
    (h2 : ((⟨(leadOf one two).toArray⟩ : Str) != Str.ofString "") = true) (h3 : (checkOf (leadOf one two ++ [40, 40] ++ (marksOf k one two ns).flatten ++ List.replicate (1 + cnt1 40 (marksOf k one two ns) - cnt1 41 (marksOf k one two ns)).toNat 41) != false) = true) : False := by
  have e := ok.2.2 (ok.1.symm.trans h1) (fun e => by rw [e] at h2; exact absurd h2 (by decide))
  unfold rowTxt at e
  rw [e] at h3
  simp at h3
theorem facesP_len (k one two : Int) : (facesP k one two).length = k.toNat := by simp [facesP, facesL]
theorem facesP_map (k one two : Int) : (facesP k one two).map (fun l => (⟨l.toArray⟩ : Str)) = ((((facesL k).map fun l => (⟨l.toArray⟩ : Str)).set one.toNat (Str.ofString "(")).set two.toNat (Str.ofString ")")) := by
  unfold facesP
  rw [List.map_set, List.map_set, lp_l, rp_l]
theorem map_take {α β : Type} {f : α → β} {l : List α} {i : Nat} {v : α} (h : l[i]? = some v) : (l.map f).take (i + 1) = (l.map f).take i ++ [f v] := by
  rw [List.take_add_one, List.getElem?_map, h]; rfl
theorem faces_le (k one two : Int) (i : Nat) : ((facesP k one two).getD i []).length ≤ 2 := by
  have h1 : ∀ l ∈ facesL k, l.length ≤ 2 := by
    intro l hl
    obtain ⟨r, _, rfl⟩ := List.mem_map.mp hl
    unfold faceAt; split <;> simp
  have h2 : ∀ l ∈ facesP k one two, l.length ≤ 2 := by
    intro l hl
    unfold facesP at hl
    rcases List.mem_or_eq_of_mem_set hl with h | rfl
    · rcases List.mem_or_eq_of_mem_set h with h | rfl
      · exact h1 _ h
      · simp
    · simp
  by_cases hi : i < (facesP k one two).length
  · exact h2 _ (getD_mem hi)
  · rw [List.getD_eq_getElem?_getD, List.getElem?_eq_none (by omega)]; simp
theorem marks_sum (k one two : Int) : ∀ (ns : List Int), ns.length ≤ 6 → ((marksOf k one two ns).map List.length).sum ≤ 12 := by
  have key : ∀ ns : List Int, ((marksOf k one two ns).map List.length).sum ≤ 2 * ns.length := by
    intro ns
    induction ns with
    | nil => simp [marksOf]
    | cons n r ih =>
      have := faces_le k one two (n.fmod k).toNat
      simp only [marksOf, List.map_cons, List.sum_cons, List.length_cons] at ih ⊢
      omega
  intro ns h
  have := key ns
  omega
theorem item_pp {k : Int} (h0 : 0 ≤ k) (h1 : k < 2) : Txt.item (Str.ofString "()") k = ⟨[([40, 41] : List Nat).getD k.toNat 0].toArray⟩ := by
  obtain rfl | rfl : k = 0 ∨ k = 1 := by omega
  all_goals decide +kernel
theorem range_take (n i : Nat) (h : i < n) {α : Type} (f : Nat → α) : ((List.range n).map f).take (i + 1) = ((List.range n).map f).take i ++ [f i] := by
  rw [List.take_add_one]
  simp [h]
theorem rg_ConN1_1 : True := by
  k_with_none
  (k_with "my_cell_enter" => (refine' code_defCG (B := by k_asm) (F := by k_asm) (by k_asm) (N := by k_asm) (T := by k_asm) (hA := by exact rfl) (hf := by exact rfl) (hke := by assumption) (ho := by k_is) (hcd := by k_is) (hroom := by ktr_room) (hbind := by exact BindsTo.of_eq rfl) (hkind := by exact rfl) (hnd := by decide +kernel) ?_ (hco := by exact rfl) (hgen := by exact rfl) (hk := by exact rfl); k_whole; intro g' L' h' tk' cells' FG'; (show let m0 := _; Fr _ _ _ m0 → _); intro m0 F'; intro N' Y' B' X' T' l1 GS'; (try k_lt l1); (try (first | have tl' := TailLt.mk l1 | have tl' := TailLt.mk l1.2 | have tl' := TailLt.mk l1.2.2 | have tl' := TailLt.mk l1.2.2.2 | have tl' := TailLt.mk l1.2.2.2.2 | have tl' := TailLt.mk l1.2.2.2.2.2)); k_cells Y'; (try simp only [List.cons_append, List.nil_append] at N'); (try dsimp only); (try k_lift B'); (try k_fold); (show let A' := _; let Q' := _; let E' := _; wpAny _ A' _ Q' E' _); intro A' Q' E'))
  (k_with "eval Constant int" => (refine constI ?_))
  (k_with "eval Constant str" => (refine constS ?_))
  (k_with "eval Call" => ((show let Q9 := _; wpAny _ _ _ Q9 _ _); intro Q9; refine Call_ ?_))
  (k_with "eval Call Attribute" => ((show let Q9 := _; wpAny _ _ _ Q9 _ _); intro Q9; refine MethodCall_ ?_))
  (k_with "exec If" => ((show let Q9 := _; wpAny _ _ _ Q9 _ _); intro Q9; refine wpAny_If ?_))
  (k_with "exec Assign" => ((show let Q9 := _; wpAny _ _ _ Q9 _ _); intro Q9; refine wpAny_Assign_Name ?_))
  (k_with "exec AugAssign" => ((show let Q9 := _; wpAny _ _ _ Q9 _ _); intro Q9; refine wpAny_AugAssign_Name ?_))
  (k_with "eval BinOp" => ((show let Q9 := _; wpAny _ _ _ Q9 _ _); intro Q9; refine wpAny_BinOp ?_))
  (k_with "eval Compare" => ((show let Q9 := _; wpAny _ _ _ Q9 _ _); intro Q9; refine wpAny_Compare1 ?_))
  (k_with "isTrue Compare" => ((show let Q9 := _; wpAny _ _ _ Q9 _ _); intro Q9; refine wpAny_isTrue_Compare1 ?_))
  (k_with "eval Subscript" => ((show let Q9 := _; wpAny _ _ _ Q9 _ _); intro Q9; refine Subscript_ ?_))
  (k_with "my_k_all" => (refine' TailLt.ne (h := by assumption) (hc := by first | exact Nat.le_refl _ | omega)))
  (k_with "my_k_all" => (exact TailOff.ne (by assumption)))
  (k_with "my_k_all" => (exact allLt_ne (by assumption)))
  (k_with "a" => (with_reducible assumption))
  (k_with "lt" => ((first | (with_reducible show @LT.lt Nat _ _ _) | (with_reducible show @LE.le Nat _ _ _)); first | k_extra "a" | (with_reducible refine Nat.lt_of_succ_lt ?_; k_extra "a") | (with_reducible refine Nat.le_of_lt ?_; first | k_extra "a" | (refine Nat.lt_of_succ_lt ?_; k_extra "a")) | (with_reducible refine Nat.lt_trans ?_ (by with_reducible assumption); k_extra "lt")))
  (k_with "lt0" => (first | with_reducible exact Nat.lt_succ_self _ | with_reducible assumption | (with_reducible refine Nat.lt_succ_of_lt ?_; k_extra "lt0")))
  (k_with "my_k_ne" => (refine neN ?_; (try dsimp only); first | (refine Nat.ne_of_lt ?_; k_extra "lt0") | (refine Nat.ne_of_gt ?_; k_extra "lt0") | (refine Nat.ne_of_lt ?_; k_extra "lt") | (refine Nat.ne_of_gt ?_; k_extra "lt")))
  (k_with "call builtin:len" => (k_here; (with_reducible show wpAny _ _ (call (Value.builtin "len") [Value.str _ _]) _ _ _); k_dflt (refine' len_l (hz := by (first | assumption | omega | (simp only [List.length_append, List.length_cons, List.length_nil, List.length_take, List.length_drop]; omega))) ?_); intro _ _))
  (k_with "binaryOp Add str str" => (k_here; (with_reducible show wpAny _ _ (binaryOp _ (Value.str _ _) (Value.str _ _)) _ _ _); k_dflt (refine' add_l (hX := by first | with_reducible rfl | exact bs_l | exact qt_l | exact em_l | exact ws_l | exact str_self _) (hY := by first | with_reducible rfl | exact bs_l | exact qt_l | exact em_l | exact ws_l | exact str_self _) (hz := by (first | assumption | omega | (simp only [List.length_append, List.length_cons, List.length_nil, List.length_take, List.length_drop]; omega))) ?_); intro _ _))
  (k_with "inplaceOp Add str str" => (k_here; (with_reducible show wpAny _ _ (inplaceOp _ (Value.str _ _) (Value.str _ _)) _ _ _); k_dflt (refine' iadd_l (hX := by first | with_reducible rfl | exact bs_l | exact qt_l | exact em_l | exact ws_l | exact str_self _) (hY := by first | with_reducible rfl | exact bs_l | exact qt_l | exact em_l | exact ws_l | exact str_self _) (hz := by (first | assumption | omega | (simp only [List.length_append, List.length_cons, List.length_nil, List.length_take, List.length_drop]; omega))) ?_); intro _ _))
  (k_with "subscriptTail Name Name str int" => (k_here; (with_reducible show wpAny _ _ (subscriptTail _ _ (Value.str _ _) (Value.int _ _)) _ _ _); k_dflt (refine' item_l (hX := by first | with_reducible rfl | exact bs_l | exact qt_l | exact em_l | exact ws_l | exact str_self _) (h0 := by (first | assumption | omega | (simp only [List.length_append, List.length_cons, List.length_nil, List.length_take, List.length_drop]; omega))) (h1 := by (first | assumption | omega | (simp only [List.length_append, List.length_cons, List.length_nil, List.length_take, List.length_drop]; omega))) (hz := by (first | assumption | omega | (simp only [List.length_append, List.length_cons, List.length_nil, List.length_take, List.length_drop]; omega))) ?_ (hs := by first | exact .inl (by with_unfolding_all rfl) | exact .inr (by with_unfolding_all rfl))); intro _))
  (k_with "subscriptTail Name Slice str ref" => (k_here; (with_reducible show wpAny _ _ (subscriptTail _ (PySem.Expr.Slice none (some _) none _) _ _) _ _ _); k_dflt (refine' sliceTo_l (F := by k_asm) (N := by k_asm) (h0 := by (first | assumption | omega | (simp only [List.length_append, List.length_cons, List.length_nil, List.length_take, List.length_drop]; omega))) (h1 := by (first | assumption | omega | (simp only [List.length_append, List.length_cons, List.length_nil, List.length_take, List.length_drop]; omega))) (hz := by (first | assumption | omega | (simp only [List.length_append, List.length_cons, List.length_nil, List.length_take, List.length_drop]; omega))) ?_ (hs := by with_unfolding_all rfl) (ht := by (intro _; with_unfolding_all rfl))); intro _ _ _ _ _))
  (k_with "subscriptTail Name Slice str ref" => (k_here; (with_reducible show wpAny _ _ (subscriptTail _ (PySem.Expr.Slice (some _) none none _) _ _) _ _ _); k_dflt (refine' sliceFrom_l (F := by k_asm) (N := by k_asm) (h0 := by (first | assumption | omega | (simp only [List.length_append, List.length_cons, List.length_nil, List.length_take, List.length_drop]; omega))) (h1 := by (first | assumption | omega | (simp only [List.length_append, List.length_cons, List.length_nil, List.length_take, List.length_drop]; omega))) (hz := by (first | assumption | omega | (simp only [List.length_append, List.length_cons, List.length_nil, List.length_take, List.length_drop]; omega))) ?_ (hs := by with_unfolding_all rfl) (ht := by (intro _; with_unfolding_all rfl))); intro _ _ _ _ _))
  (k_with "eval Name" => (k_here; (fail_if_success (with_reducible show wpAny _ _ (eval _ (compEnvC _ _ _ _)) _ _ _)); k_dflt (refine' nameX_L2 (hx := by rfl) (hk := by rfl) (hd := by rfl) (F := by k_asm) (hv := by (first | exact rfl | assumption | ((repeat refine (if_neg (by decide)).trans ?_); first | assumption | exact if_pos rfl))) ?_; k_whole)))
  (k_with "setItem ref int" => (k_here; (with_reducible show wpAny _ _ (setItem (Value.ref _) (Value.int _ _) (Value.str _ _)) _ _ _); k_dflt (refine' set_l (F := by k_asm) (N := by k_asm) (U := by k_upd) (h0 := by omega) (h1 := by first | omega | (rw [List.length_set]; omega)) (hz := by first | omega | (rw [List.length_set]; omega)) ?_); intro _ _ _))
  (k_with "subscriptTail" => (k_here; (with_reducible show wpAny _ _ (subscriptTail _ _ (Value.ref _) (Value.int _ _)) _ _ _); k_dflt (refine' txt_item (N := by k_asm) (hm := by k_mem) (S := by assumption) (h0 := by first | omega | exact (by assumption : _ ∧ _).1) (h1 := by omega) (hz := by omega) ?_ (hs := by with_unfolding_all rfl)); intro _))
  (k_with "binaryOp Mult str int" => (k_here; (with_reducible show wpAny _ _ (binaryOp _ (Value.str _ _) (Value.int _ _)) _ _ _); (try simp only [cnt_lp, cnt_rp]); k_dflt (refine' mul_l rp_l (h0 := by omega) (h1 := by omega) ?_); intro _ _))
  (k_with "call builtin:str.join" => (k_here; k_dflt (refine' join_res (N := by k_asm) (hm := by k_mem) (hs := by assumption) (hz := by omega) ?_); intro _ _))
  (k_with "binaryOp Add str str" => (k_here; (with_reducible show wpAny _ _ (binaryOp _ (Value.str _ _) (Value.str _ _)) _ _ _); k_dflt (refine' add_l (hX := by first | with_reducible exact lp_l | with_reducible exact lp2_l | with_reducible exact rp_l | with_reducible rfl) (hY := by first | with_reducible exact lp_l | with_reducible exact lp2_l | with_reducible exact rp_l | with_reducible rfl) (hz := by (first | assumption | omega | (simp only [List.length_append, List.length_cons, List.length_nil, List.length_take, List.length_drop, List.length_replicate]; omega))) ?_); intro _ _))
  (k_with "call ref" => (k_here; (with_reducible show wpAny _ _ (call (Value.ref 35) [Value.str _ _]) _ _ _); k_dflt (refine' g_check (F := by k_asm) (N := by k_asm) (hz := by (first | assumption | omega | (simp only [List.length_append, List.length_cons, List.length_nil, List.length_take, List.length_drop, List.length_replicate]; omega))) (B := by k_asm) (X := by k_asm) (T := by k_asm) (hk := by first | exact rfl | assumption) (hd := by first | assumption | ktr_room) (hu := by first | assumption | ktr_units | ktr_room) ?_); intro h6 gs6 tk6 F6 N6 x6))
  (k_with "eval IfExp" => (k_here; k_dflt (refine' lead_if (he := by exact rfl) (hsc := by exact rfl) (F := by k_asm) (X := by k_asm) (N := by k_asm) (m1 := by rfl) (m2 := by rfl) ?_); intro _ _))
  (k_with "call builtin:len" => (k_here; (with_reducible show wpAny _ _ (call (Value.builtin "len") [Value.ref _]) _ _ _); k_dflt (refine' len_led (N := by k_asm) (hm := by k_mem) (S := by assumption) (hz := by omega) ?_); intro _ _))
  (k_with "call builtin:list.count" => (k_here; (with_reducible show wpAny _ _ (call (Value.builtin "list.count") [Value.ref _, Value.str _ _]) _ _ _); k_dflt (refine' count_led (N := by k_asm) (hm := by k_mem) (S := by assumption) (hX := by first | with_reducible exact lp_l | with_reducible exact rp_l) ?_); intro _ _))
  (k_with "subscriptTail Name Slice ref ref" => (k_here; (with_reducible show wpAny _ _ (subscriptTail _ (PySem.Expr.Slice none (some _) none _) (Value.ref _) (Value.ref _)) _ _ _); k_dflt (refine slice_strs (F := by k_asm) (N := by k_asm) (hm := by k_mem) (S := by assumption) (h0 := by omega) (hz := by omega) ?_ (hs := by with_unfolding_all rfl) (ht := by kmk_pure)); intro D' ws' h' F' N' l1 hI'; (try k_dflt (have hC9 := hCo _ (N' (C, oC) (by k_mem)).1)); k_lt l1))
  (k_with "exec Assign cons ListComp" => (k_here; k_dflt (refine wpAny_Assign_Name ?_ (hs := by with_unfolding_all rfl))))
  (k_with "exec Assign cons ListComp" => (k_here; k_dflt (refine' compJ_assign (hsw := by with_unfolding_all rfl) (hclos := by exact rfl) (hcell := by decide) (hkind := by exact rfl) (hnames := by decide) (hx := by exact rfl) (hy := by exact rfl) (hp := by exact rfl) ?_ (hs := by exact fun _ => rfl)); (try dsimp only)))
  (k_with "eval ListComp" => (k_here; k_dflt (refine' compJ_eval (hclos := by exact rfl) (hcell := by decide) (hkind := by exact rfl) (hnames := by decide) (hx := by exact rfl) ?_ (hs := by exact fun _ => rfl)); (try dsimp only)))
  (k_with "getMethod ref" => (k_here; (with_reducible show wpAny _ _ (getMethod (Value.ref _) (PySem.Str.ofString "count") _) _ _ _); k_dflt (refine' kl_method (N := by k_asm) (hm := by k_mem) PySem.F.slot_list_count PySem.F.type_list_count ?_)))
  (k_with "omega" => (first | k_extra "lt" | lia))
  trivial
set_option maxHeartbeats 4000000 in
theorem c_taken (w : World) (q : Program) (mean : ExcName → Option Value) (mg mb : Str → Option Value) (loose : List Str) (tail : List (Addr × Obj)) (nl : Addr) (vs : List Value) (ns : List Int) (nn : Nat) (k one two : Int) (tk1 t1 t2 : Tok) (r : Bool) :
  ClG 10 rw_sn0078_01.row.prog w (K0 w.params) q loose mean mg mb 194 ((nl, listOf vs.toArray nn) :: tail) [] (IntsAre vs ns ∧ 2 ≤ k ∧ k ≤ 5 ∧ 0 ≤ one ∧ one < k ∧ 0 ≤ two ∧ two < k ∧ ns.length ≤ 6 ∧ (∀ n ∈ ns, 0 ≤ n ∧ n ≤ 300) ∧ TakenOk k one two ns r) [.ref nl, .int k tk1, .int one t1, .int two t2]
    (fun v news' => v = .bool r ∧ news' = (nl, listOf vs.toArray nn) :: tail) := by
  k_fill
  dsimp only [ClG]; intros; rename_i hpre _ _ hret; obtain ⟨hvs, hk0, hk1, ho0, ho1, hw0, hw1, hn6, hnb, hok⟩ := hpre
  k_dflt cell_enter
  k_steps
  rename_i oM oF oK dM dF dK N0 hA tkA t1' u1' v1' hr FC NC kC
  have dK' : oK.data = .cell (some (.int k tk1)) := dK
  have km := fmod_lt k (k := 2) (by decide)
  refine' compRangeC k.toNat (fun i ys => StrsAre ys (((facesL k).take i).map fun l => ⟨l.toArray⟩)) ?hh (by k_asm) (by k_asm) hr ?hs ?hn ?hz .nil ?hlen ?turn ?done
  case hh => exact rfl
  case hs => exact small_one (by omega) (by omega) (by omega) (by omega)
  case hn => rw [rangeSize_nat]; omega
  case hz => rw [sizeLine_eq]; omega
  case hlen =>
    rintro i ys h
    have := strs_len h
    rw [List.length_map, List.length_take] at this; omega
  case turn =>
    rintro i ti ys D C I nD oC o' hh gs tkk mC hi hys hI hID hDC hC hmC F' N' Q' hQ E₁ E₂
    k_lt hI
    refine wpAny_tests_nil ?_
    rw [if_pos rfl]
    have hst : (facesL k).take (i + 1) = (facesL k).take i ++ [faceAt k i] := range_take _ _ hi _
    have hii : (0 : Int) + (i : Int) = (i : Int) := Int.zero_add _
    rw [hii] at hmC
    k_steps
    · refine' hQ.next _ _ _ _ (by assumption) ?n1 ?s1
      case n1 => exact news_sub (by assumption) (by first | ((repeat' (first | exact sub_self _ | with_reducible refine sub_cons ?_ | refine sub_cons ?_ | refine sub_skip ?_)); done) | (simp only [List.cons_append, List.nil_append, List.forall_mem_cons]; exact ⟨by k_mem, by k_mem, by k_mem, by k_mem, by k_mem, by k_mem, by k_mem, fun p hp => by repeat (first | assumption | refine List.mem_cons_of_mem _ ?_)⟩))
      case s1 =>
        rw [hst]
        refine strs_snocX hys ?_ _
        unfold faceAt
        rw [if_pos (by omega), bs_l, item_pp (by omega) (by omega), str_app]
    · refine' hQ.next _ _ _ _ (by assumption) ?n2 ?s2
      case n2 => exact news_sub (by assumption) (by first | ((repeat' (first | exact sub_self _ | with_reducible refine sub_cons ?_ | refine sub_cons ?_ | refine sub_skip ?_)); done) | (simp only [List.cons_append, List.nil_append, List.forall_mem_cons]; exact ⟨by k_mem, by k_mem, by k_mem, by k_mem, by k_mem, by k_mem, by k_mem, fun p hp => by repeat (first | assumption | refine List.mem_cons_of_mem _ ?_)⟩))
      case s2 =>
        rw [hst]
        refine strs_snocX hys ?_ _
        unfold faceAt
        rw [if_neg (by omega)]; exact em_l
  case done =>
    rintro D nD ys hh gs tkk hys hD F' N'
    have hfl : (facesL k).length = k.toNat := by simp [facesL]
    rw [← hfl, List.take_length] at hys
    k_lt hD
    have hyl : ys.length = k.toNat := by rw [strs_len hys, List.length_map, hfl]
    k_steps
    rename_i hF oF2 FF NF dF2 hS1 FS1 NS1 hS2 FS2 NS2
    obtain ⟨vs2, N2, S2⟩ := two_sets NS2 hys
    rw [← facesP_map] at S2
    clear NS2 NS1 NF
    have hv2 : vs2.length = k.toNat := by rw [strs_len S2, List.length_map, facesP_len]
    refine' compListC (vs := vs) (fun i zs => StrsAre zs (((marksOf k one two ns).take i).map fun l => ⟨l.toArray⟩)) ?hh2 FS2 N2 (by k_mem) ?hz2 .nil ?hlen2 ?turn2 ?done2
    case hh2 => exact rfl
    case hz2 => rw [sizeLine_eq, hvs.length]; omega
    case hlen2 =>
      rintro i ys h
      have := strs_len h
      rw [List.length_map, List.length_take] at this; omega
    case turn2 =>
      rintro i v zs D2 C I nD2 oC o' hh gs tkk mC hv hzs hI hID hDC hC hmC F' N' Q' hQ E₁ E₂
      k_lt hI
      obtain ⟨n, tn, rfl, hni⟩ := hvs.at i v hv
      have hnk := fmod_lt n (k := k) (by omega)
      have hfl2 : (facesP k one two).length = k.toNat := facesP_len _ _ _
      have hst := map_take (f := fun n => (facesP k one two).getD (n.fmod k).toNat []) hni
      refine wpAny_tests_nil ?_
      rw [if_pos rfl]
      k_steps
      refine' hQ.next _ _ _ _ (by assumption) (by assumption) ?s3
      case s3 =>
        unfold marksOf
        rw [hst]; exact strs_snocL hzs _ _
    case done2 =>
      rintro D2 nD2 zs hh gs tkk hzs hD2 F' N'
      have hml : (marksOf k one two ns).length = vs.length := by rw [marksOf, List.length_map, hvs.length]
      rw [← hml, List.take_length] at hzs
      k_lt hD2
      have hc1 := cnt1_le 40 (marksOf k one two ns)
      have hc2 := cnt1_le 41 (marksOf k one two ns)
      have hml6 : (marksOf k one two ns).length ≤ 6 := by rw [marksOf, List.length_map]; omega
      have hld := lead_le one two
      have hmsum : ((marksOf k one two ns).map List.length).sum ≤ 12 := marks_sum k one two ns hn6
      have hmf : (marksOf k one two ns).flatten.length ≤ 12 := by rw [List.length_flatten]; exact hmsum
      k_steps
      rename_i hRr FRr NRr eRr
      obtain ⟨oM2, NR2, dM2⟩ : ∃ o : Obj, News _ L' _ ((D2, listOf zs.toArray nD2) :: (D, listOf vs2.toArray nD) :: (L' + 1 + 1 + 1, o) :: (L' + 1 + 1, oF2) :: (L' + 1, oK) :: (nl, listOf vs.toArray nn) :: tail) ∧ o.data = .cell (some (.ref D2)) := ⟨_, NRr, by assumption⟩
      clear NRr
      refine' compRangeC ((marksOf k one two ns).length + 1) (fun i ys => IntsAre ys ((aheads k one two ns).take i)) ?hh3 (by k_asm) (by k_asm) hRr ?hs3 ?hn3 ?hz3 .nil ?hlen3 ?turn3 ?done3
      case hh3 => exact rfl
      case hs3 => exact small_one (by omega) (by omega) (by omega) (by omega)
      case hn3 => rw [rangeSize_nat]; omega
      case hz3 => rw [sizeLine_eq]; omega
      case hlen3 =>
        rintro i ys h
        have := h.length
        rw [List.length_take] at this; omega
      case turn3 =>
        rintro i ti ys D3 C I n3 oC o' hh gs tkk mC hi hys hI hID hDC hC hmC F' N' Q' hQ E₁ E₂
        have hCo : ∀ h9 : Heap, h9.get? C = some oC → h9.Ns C mC := fun h9 e9 => ns_same hC (N' (C, oC) (by k_mem)).1 e9
        k_lt hI
        refine wpAny_tests_nil ?_
        rw [if_pos rfl]
        have hii : (0 : Int) + (i : Int) = (i : Int) := Int.zero_add _
        rw [hii] at hmC
        have hst : (aheads k one two ns).take (i + 1) = (aheads k one two ns).take i ++ [aheadOf (marksOf k one two ns) i] := range_take _ _ hi _
        k_steps
        refine' hQ.next _ _ _ _ (by assumption) ?n4 ?s4
        case n4 => exact news_sub (by assumption) (by first | ((repeat' (first | exact sub_self _ | with_reducible refine sub_cons ?_ | refine sub_cons ?_ | refine sub_skip ?_)); done) | (simp only [List.cons_append, List.nil_append, List.forall_mem_cons]; exact ⟨by k_mem, by k_mem, by k_mem, by k_mem, by k_mem, by k_mem, by k_mem, by k_mem, by k_mem, fun p hp => by repeat (first | assumption | refine List.mem_cons_of_mem _ ?_)⟩))
        case s4 =>
          rw [hst]
          exact hys.append (.cons _ _ .nil)
      case done3 =>
        rintro D3 nD3 ys hh gs tkk hys hD3 F' N'
        have hal : (aheads k one two ns).length = (marksOf k one two ns).length + 1 := by simp [aheads]
        rw [← hal, List.take_length] at hys
        have hD3' := hD3
        k_lt hD3
        refine' ⟨_, _, _, _, rfl, (by show @LT.lt Nat _ L' D3; omega), F', N', ?le3, ?go3⟩
        case le3 =>
          intro p hp
          rcases List.mem_cons.mp hp with rfl | hp
          · exact Nat.le_refl _
          · exact Nat.le_of_lt (hD3' p hp)
        case go3 =>
          intro hh3 tk3 F3 N3
          k_steps
          all_goals first
            | exact (taken_no1 hok (by assumption) (by assumption) (by assumption)).elim
            | exact (taken_no2 hok (by assumption) (by assumption) (by assumption)).elim
            | skip
          all_goals refine' hret _ _ _ _ _ ⟨congrArg Value.bool hok.1, rfl⟩ (by k_asm) ?_ ?_
          all_goals first
            | exact news_sub (by assumption) fun p hp => by repeat (first | assumption | refine List.mem_cons_of_mem _ ?_)
            | exact (clm_ext (by assumption) (by assumption) (by assumption) (by assumption) fun p hp => .inr (by repeat (first | assumption | refine List.mem_cons_of_mem _ ?_)))
theorem rz_ConO0 : True := by k_with_none; trivial
local macro_rules | `(tactic| omega) => `(tactic| omega (config := {}))
theorem ints_ofAll : ∀ (us : List Value) (f : Nat → Int), (∀ j v, us[j]? = some v → ∃ t, v = Value.int (f j) t) → IntsAre us ((List.range us.length).map f)
  | [], _, _ => .nil
  | v :: r, f, h => by
    obtain ⟨t, rfl⟩ := h 0 v rfl
    have ih := ints_ofAll r (fun j => f (j + 1)) fun j v hj => h (j + 1) v hj
    rw [List.length_cons, List.range_succ_eq_map, List.map_cons, List.map_map]
    exact .cons _ t ih
section
variable {prog : Program} {w : World} {A : Around} {E : Value → Shared → Prop} {s : Shared} {h₀ : Heap} {L D : Addr} {m : Str → Option Value} {news news' : List (Addr × Obj)} {n : Nat}
theorem list_rng {r : Addr} {a b c : Int} {t u v : Tok} {Q : Value → Shared → Prop} (n : Nat) (hh : A.handled = none) (F : Fr h₀ L s.heap m) (N : News h₀ L s.heap news) (hr : IsRange s.heap r a b c t u v) (hsmall : Builtin.Range.small a b c = true) (hn : Builtin.Range.rangeSize a b c = (n : Int)) (hz : n ≤ 1000)
    (h : ∀ D us k h' tk, Fr h₀ L h' m → News h₀ L h' ((D, listOf (List.toArray us) k) :: news) → (∀ p ∈ news, p.1 < D) → IntsAre us ((List.range n).map fun i : Nat => a + (i : Int) * c) → Q (.ref D) { s with heap := h', toks := tk }) :
    wpAny (model prog w) A (call (.type "list") [.ref r]) Q E s := by
  refine call_list_range hh hr hsmall hn (by omega) fun h' tk acc k hk hD hI => ?_
  have hD' : h'.get? s.heap.objs.size = some (listOf (List.toArray acc.toList) k) := by
    rw [Array.toArray_toList]
    exact hD
  have hl : acc.toList.length = n := by rw [Array.length_toList]; exact hI.1
  have hi := ints_ofAll acc.toList (fun i : Nat => a + (i : Int) * c) fun j v hj => hI.2 j v (by rw [← hj, Array.getElem?_toList])
  rw [hl] at hi
  exact h _ acc.toList k h' tk (F.keeps hk) (news_pushed F N hk hD' rfl) (fun p hp => Heap.lt_size (N p hp).1) hi
theorem size_down {a b : Int} (h : b ≤ a) : Builtin.Range.rangeSize a b (-1) = ((a - b).toNat : Int) := by
  unfold Builtin.Range.rangeSize
  rw [if_neg (by decide), show (-(-1) : Int) = 1 from rfl, Int.ediv_one]
  by_cases hab : a > b
  · rw [if_pos hab]; omega
  · rw [if_neg hab]; omega
theorem small_down {a b : Int} (h : b ≤ a) (ha : a ≤ 1000) (hb : -1000 ≤ b) : Builtin.Range.small a b (-1) = true := by
  unfold Builtin.Range.small
  rw [size_down h]
  rw [if_neg (show ¬ ((-1 : Int) > 0) by decide)]
  simp only [Builtin.Range.rangeFitsLong, Bool.and_eq_true, Bool.or_eq_true, decide_eq_true_eq, beq_iff_eq]
  have p : (-2 : Int) ^ 63 ≤ -1000 := by decide
  have q : (1000 : Int) < 2 ^ 63 := by decide
  have d0 : 0 ≤ a - b := Int.sub_nonneg_of_le h
  have hA := Int.lt_of_le_of_lt ha q
  rw [Int.toNat_of_nonneg d0, show (-1 : Int) + 1 = 0 from rfl, Int.add_zero]
  exact ⟨⟨⟨⟨⟨Int.le_trans p (Int.le_trans hb h), hA⟩, Int.le_trans p hb, Int.lt_of_le_of_lt h hA⟩, by decide, by decide⟩, Int.le_trans (by decide) d0, Int.lt_of_le_of_lt (Int.sub_le_sub ha hb) (by decide)⟩, .inr ⟨Int.le_trans p hb, Int.lt_of_le_of_lt h hA⟩⟩
theorem list_up {r : Addr} {b : Int} {t u v : Tok} {Q : Value → Shared → Prop} (hh : A.handled = none) (F : Fr h₀ L s.heap m) (N : News h₀ L s.heap news) (hr : IsRange s.heap r 0 b 1 t u v) (h0 : 0 ≤ b) (h1 : b ≤ 1000)
    (h : ∀ D us k h' tk, Fr h₀ L h' m → News h₀ L h' ((D, listOf (List.toArray us) k) :: news) → (∀ p ∈ news, p.1 < D) → IntsAre us ((List.range b.toNat).map fun i : Nat => (0 : Int) + (i : Int) * 1) → Q (.ref D) { s with heap := h', toks := tk }) :
    wpAny (model prog w) A (call (.type "list") [.ref r]) Q E s :=
  list_rng b.toNat hh F N hr (small_one (by omega) (by omega) (by omega) (by omega)) (by rw [rangeSize_nat, Int.sub_zero]) (by omega) h
theorem list_down {r : Addr} {a b : Int} {t u v : Tok} {Q : Value → Shared → Prop} (hh : A.handled = none) (F : Fr h₀ L s.heap m) (N : News h₀ L s.heap news) (hr : IsRange s.heap r a b (-1) t u v) (h0 : b ≤ a) (h1 : a ≤ 900) (hb : -1 ≤ b)
    (h : ∀ D us k h' tk, Fr h₀ L h' m → News h₀ L h' ((D, listOf (List.toArray us) k) :: news) → (∀ p ∈ news, p.1 < D) → IntsAre us ((List.range (a - b).toNat).map fun i : Nat => a + (i : Int) * (-1)) → Q (.ref D) { s with heap := h', toks := tk }) :
    wpAny (model prog w) A (call (.type "list") [.ref r]) Q E s :=
  list_rng _ hh F N hr (small_down h0 (by omega) (by omega)) (size_down h0) (by omega) h
theorem pos1 {us : List Value} {l : List Int} (hi : IntsAre us l) (h : decide (l = []) = false) : 0 < us.length := by
  rw [hi.length]
  exact List.length_pos_iff.mpr (of_decide_eq_false h)
theorem pos2 {us : List Value} {l : List Int} (hi : IntsAre us l) (h : (!decide (l = [])) = true) : 0 < us.length := pos1 hi (by simpa using h)
theorem pos3 {us : List Value} {d l : List Int} {k : Nat} (hi : IntsAre us d) (h : decide (l = []) = true) (hs : d.length + l.length = k) (hk : 0 < k) : 0 < us.length := by
  have := of_decide_eq_true h
  subst this
  rw [hi.length]
  simp at hs
  omega
theorem ints_ins {us : List Value} {l : List Int} (hi : IntsAre us l) {x : Int} (y : Int) (t : Tok) (h0 : 0 ≤ x) : IntsAre (kl_ins us x (.int y t)) (l.take x.toNat ++ y :: l.drop x.toNat) := by
  unfold kl_ins
  rw [if_neg (by omega), kmk_take_min, kmk_drop_min]
  exact (hi.take _).append (.cons _ _ (hi.drop _))
theorem insert_led {us : List Value} {l : List Int} {x y : Int} {u t : Tok} {Q : Value → Shared → Prop} (F : Fr h₀ L s.heap m) (N : News h₀ L s.heap news) (U : Upd D (listOf us.toArray n) (listOf (kl_ins us x (.int y t)).toArray (n + 1)) news news') (h0 : 0 ≤ x) (h1 : x ≤ 1000) (hi : IntsAre us l) (hz : us.length ≤ 1000)
    (h : ∀ h', Fr h₀ L h' m → News h₀ L h' news' → IntsAre (kl_ins us x (.int y t)) (l.take x.toNat ++ y :: l.drop x.toNat) → Q .none { s with heap := h' }) : wpAny (model prog w) A (call (.builtin "list.insert") [.ref D, .int x u, .int y t]) Q E s := by
  refine kl_insert F N ?_ (l := kl_ins us x (.int y t)) (by simp) U (by rw [sizeLine_eq]; simp; omega) fun h' F' N' => h h' F' N' (ints_ins hi y t h0)
  unfold Builtin.List.listFitsIndex
  simp only [Bool.and_eq_true, decide_eq_true_eq]
  omega
end
theorem perm_ins {l : List Int} {k : Nat} (y : Int) : (l.take k ++ y :: l.drop k).Perm (l ++ [y]) := by
  refine List.perm_middle.trans ?_
  rw [List.take_append_drop]
  exact (List.perm_append_comm (l₁ := [y]) (l₂ := l))
theorem last_eq {l : List Int} (h : l ≠ []) : l = l.dropLast ++ [l.getLastD 0] := by
  cases l with
  | nil => exact absurd rfl h
  | cons a r => rw [List.getLastD_cons, ← List.getLast_eq_getLastD (a := a) (l := r) (by simp), List.dropLast_concat_getLast]
theorem perm_pop1 {d l o R : List Int} (h : (d ++ l ++ o).Perm R) (hd : 0 < d.length) : (d.dropLast ++ l ++ (o ++ [d.getLastD 0])).Perm R := by
  refine List.Perm.trans ?_ h
  have e := last_eq (l := d) (by intro q; subst q; simp at hd)
  generalize hx : d.getLastD 0 = x at e
  generalize d.dropLast = p at e
  subst e
  rw [List.perm_iff_count]
  intro a
  simp only [List.count_append]
  omega
theorem perm_pop2 {d l o R : List Int} (h : (d ++ l ++ o).Perm R) (hd : 0 < l.length) : (d ++ l.dropLast ++ (o ++ [l.getLastD 0])).Perm R := by
  refine List.Perm.trans ?_ h
  have e := last_eq (l := l) (by intro q; subst q; simp at hd)
  generalize hx : l.getLastD 0 = x at e
  generalize l.dropLast = p at e
  subst e
  rw [List.perm_iff_count]
  intro a
  simp only [List.count_append]
  omega
theorem perm_swap {o : List Int} {p : Nat} (h : p + 1 < o.length) : (o.take p ++ [o.getD (p + 1) 0, o.getD p 0] ++ o.drop (p + 2)).Perm o := by
  have e1 : o.drop p = o.getD p 0 :: o.getD (p + 1) 0 :: o.drop (p + 2) := by
    rw [List.drop_eq_getElem_cons (by omega), List.drop_eq_getElem_cons h]
    simp [List.getD, List.getElem?_eq_getElem h, List.getElem?_eq_getElem (show p < o.length by omega)]
  have e2 : o = o.take p ++ (o.getD p 0 :: o.getD (p + 1) 0 :: o.drop (p + 2)) := by rw [← e1, List.take_append_drop]
  generalize o.getD p 0 = x at *
  generalize o.getD (p + 1) 0 = y at *
  generalize o.drop (p + 2) = z at *
  generalize o.take p = u at *
  rw [e2]
  rw [List.append_assoc]
  exact (List.Perm.append_left u (List.Perm.swap x y z))
noncomputable def upTo (n : Nat) : List Int := (List.range n).map fun i : Nat => (i : Int)
theorem perm_start {cut size : Nat} (h : cut ≤ size) : (((List.range cut).map fun i : Nat => (0 : Int) + (i : Int) * 1) ++ ((List.range (size - cut)).map fun i : Nat => ((size : Int) - 1) + (i : Int) * (-1)) ++ []).Perm (upTo size) := by
  unfold upTo
  rw [List.append_nil]
  have e1 : ((List.range cut).map fun i : Nat => (0 : Int) + (i : Int) * 1) = (List.range cut).map fun i : Nat => (i : Int) := List.map_congr_left fun i _ => by omega
  have e2 : ((List.range (size - cut)).map fun i : Nat => ((size : Int) - 1) + (i : Int) * (-1)) = ((List.range (size - cut)).reverse.map fun i : Nat => ((cut + i : Nat) : Int)) := by
    rw [List.range_eq_range', List.reverse_range', List.map_map]
    rw [← List.range_eq_range']
    exact List.map_congr_left fun i hi => by
      have := List.mem_range.mp hi
      obtain ⟨k, hk⟩ := Nat.exists_eq_add_of_lt this
      have hs : size = cut + (i + k + 1) := by rw [← hk, Nat.add_sub_cancel' h]
      simp [hk]
      omega
  have e3 : (List.range size) = List.range cut ++ (List.range (size - cut)).map (cut + ·) := by rw [← List.range_add]; congr 1; omega
  rw [e1, e2, e3, List.map_append, List.map_map]
  refine List.Perm.append_left _ ?_
  exact (List.reverse_perm _).map _
theorem len1 {l : List Int} (h : decide (l = []) = false) : 0 < l.length := List.length_pos_iff.mpr (of_decide_eq_false h)
theorem len2 {l : List Int} (h : (!decide (l = [])) = true) : 0 < l.length := len1 (by simpa using h)
theorem len3 {d l : List Int} {k : Nat} (h : decide (l = []) = true) (hs : d.length + l.length = k) (hk : 0 < k) : 0 < d.length := by
  have := of_decide_eq_true h
  subst this
  simp at hs
  omega
theorem news_tl {h₀ h : Heap} {L : Addr} {p : Addr × Obj} {l : List (Addr × Obj)} (N : News h₀ L h (p :: l)) : News h₀ L h l := fun q hq => N q (.tail _ hq)
theorem upTo_succ (i : Nat) : upTo (i + 1) = upTo i ++ [(i : Int)] := by unfold upTo; rw [List.range_succ, List.map_append]; rfl
theorem upTo_len (n : Nat) : (upTo n).length = n := by simp [upTo]
theorem perm_ins2 {l : List Int} {k i : Nat} {y : Int} (h : l.Perm (upTo i)) (e : y = i) : (l.take k ++ y :: l.drop k).Perm (upTo (i + 1)) := by
  subst e
  rw [upTo_succ]
  exact (perm_ins _).trans (h.append_right _)
inductive OrdJ (oA lA dA nr : Addr) (rvs : List Value) (rn : Nat) (tail : List (Addr × Obj)) (size : Int) (ts : Tok) (i : Nat) (m : Str → Option Value) (nx : List (Addr × Obj)) : Prop
  | mk (d l o : List Int) (dv lv ov : List Value) (dk lk ok : Nat) : (nx = (oA, listOf ov.toArray ok) :: (lA, listOf lv.toArray lk) :: (dA, listOf dv.toArray dk) :: (nr, listOf rvs.toArray rn) :: tail) → (IntsAre dv d) → (IntsAre lv l) → (IntsAre ov o) → (d.length + l.length = size.toNat - i) → (o.length = i) → ((d ++ l ++ o).Perm (upTo size.toNat)) → (m (Str.ofString "row") = some (.ref nr)) → (m (Str.ofString "size") = some (.int size ts)) → (m (Str.ofString "dealt") = some (.ref dA)) → (m (Str.ofString "left") = some (.ref lA)) → (m (Str.ofString "order") = some (.ref oA)) → OrdJ oA lA dA nr rvs rn tail size ts i m nx
inductive OrdJ2 (pA oA lA dA nr : Addr) (o₁ l₁ d₁ : Obj) (rvs : List Value) (rn : Nat) (tail : List (Addr × Obj)) (size : Int) (ts : Tok) (i : Nat) (m : Str → Option Value) (nx : List (Addr × Obj)) : Prop
  | mk (o : List Int) (ov : List Value) (ok : Nat) : (nx = (pA, listOf ov.toArray ok) :: (oA, o₁) :: (lA, l₁) :: (dA, d₁) :: (nr, listOf rvs.toArray rn) :: tail) → (IntsAre ov o) → (o.Perm (upTo i)) → (m (Str.ofString "row") = some (.ref nr)) → (m (Str.ofString "size") = some (.int size ts)) → (m (Str.ofString "order") = some (.ref pA)) → OrdJ2 pA oA lA dA nr o₁ l₁ d₁ rvs rn tail size ts i m nx
theorem ord_sub {f size : Int} (h0 : 0 ≤ f) (hs : 0 ≤ size) : (size - 1 - (f - 1)).toNat = size.toNat - f.toNat := by
  obtain ⟨a, rfl⟩ := Int.eq_ofNat_of_zero_le h0
  obtain ⟨n, rfl⟩ := Int.eq_ofNat_of_zero_le hs
  rw [Int.sub_sub, Int.add_comm 1, Int.sub_add_cancel]
  exact Int.toNat_sub n a
theorem ord_two {f : Int} (h0 : 0 ≤ f) (k : Nat) : (f + (k : Int)).toNat = f.toNat + k := Int.toNat_add_nat h0 k
theorem sz_mid {a b n : Nat} (h : n ≤ 6) : min a n + (0 + 1 + 1) + (n - b) ≤ 16777216 :=
  Nat.le_trans (Nat.add_le_add (Nat.add_le_add_right (Nat.le_trans (Nat.min_le_right _ _) h) _) (Nat.le_trans (Nat.sub_le _ _) h)) (by decide)
theorem sz_left {a n : Nat} (h : n ≤ 6) : min a n + (0 + 1 + 1) ≤ 16777216 :=
  Nat.le_trans (Nat.add_le_add_right (Nat.le_trans (Nat.min_le_right _ _) h) _) (by decide)
local macro_rules | `(tactic| omega) => `(tactic| k_extra "omega")
local macro_rules | `(tactic| kmk_nums) => `(tactic| k_extra "nums")
theorem rg_ConO_0 : True := by
  k_with_none
  (k_with "omega" => (first | with_reducible assumption | exact sz_mid (by with_reducible assumption) | exact sz_left (by with_reducible assumption) | lia))
  trivial
theorem rng_up {b : Int} (h : 0 ≤ b) : Builtin.Range.rangeSize 0 b 1 = (b.toNat : Int) := by rw [rangeSize_nat]; omega
theorem rg_ConO_1 : True := by
  k_with_none
  (k_with "my_cell_enter" => (refine' code_defG (B := by k_asm) (F := by k_asm) (by k_asm) (N := by k_asm) (T := by k_asm) (hA := by exact rfl) (hf := by exact rfl) (hke := by assumption) (ho := by k_is) (hcd := by k_is) (hroom := by ktr_room) (hbind := by exact BindsTo.of_eq rfl) (hloc := by exact locs rfl) ?_ (hco := by exact rfl) (hgen := by exact rfl) (hk := by exact rfl) (hcell := by decide); k_whole; intro g' L' h' FG' F' N' B' X' T' GS'; (try dsimp only); (try k_lift B'); (try k_fold)))
  (k_with "eval Constant int" => (refine constI ?_))
  (k_with "eval Constant str" => (refine constS ?_))
  (k_with "eval Call" => ((show let Q9 := _; wpAny _ _ _ Q9 _ _); intro Q9; refine Call_ ?_))
  (k_with "eval Call Attribute" => ((show let Q9 := _; wpAny _ _ _ Q9 _ _); intro Q9; refine MethodCall_ ?_))
  (k_with "exec If" => ((show let Q9 := _; wpAny _ _ _ Q9 _ _); intro Q9; refine wpAny_If ?_))
  (k_with "exec Assign" => ((show let Q9 := _; wpAny _ _ _ Q9 _ _); intro Q9; refine wpAny_Assign_Name ?_))
  (k_with "exec AugAssign" => ((show let Q9 := _; wpAny _ _ _ Q9 _ _); intro Q9; refine wpAny_AugAssign_Name ?_))
  (k_with "eval BinOp" => ((show let Q9 := _; wpAny _ _ _ Q9 _ _); intro Q9; refine wpAny_BinOp ?_))
  (k_with "eval Compare" => ((show let Q9 := _; wpAny _ _ _ Q9 _ _); intro Q9; refine wpAny_Compare1 ?_))
  (k_with "isTrue Compare" => ((show let Q9 := _; wpAny _ _ _ Q9 _ _); intro Q9; refine wpAny_isTrue_Compare1 ?_))
  (k_with "eval Subscript" => ((show let Q9 := _; wpAny _ _ _ Q9 _ _); intro Q9; refine Subscript_ ?_))
  (k_with "my_k_all" => (exact TailOff.ne (by assumption)))
  (k_with "my_k_all" => (exact allLt_ne (by assumption)))
  (k_with "a" => (with_reducible assumption))
  (k_with "lt" => ((first | (with_reducible show @LT.lt Nat _ _ _) | (with_reducible show @LE.le Nat _ _ _)); first | k_extra "a" | (with_reducible refine Nat.lt_of_succ_lt ?_; k_extra "a") | (with_reducible refine Nat.le_of_lt ?_; first | k_extra "a" | (refine Nat.lt_of_succ_lt ?_; k_extra "a")) | (with_reducible refine Nat.lt_trans ?_ (by with_reducible assumption); k_extra "lt")))
  (k_with "lt0" => (first | with_reducible exact Nat.lt_succ_self _ | with_reducible assumption | (with_reducible refine Nat.lt_succ_of_lt ?_; k_extra "lt0")))
  (k_with "my_k_ne" => (refine neN ?_; (try dsimp only); first | (refine Nat.ne_of_lt ?_; k_extra "lt0") | (refine Nat.ne_of_gt ?_; k_extra "lt0") | (refine Nat.ne_of_lt ?_; k_extra "lt") | (refine Nat.ne_of_gt ?_; k_extra "lt")))
  (k_with "call type:list" => (k_here; (with_reducible show wpAny _ _ (call (Value.type _) [Value.ref _]) _ _ _); k_dflt (refine' list_up (hh := by exact rfl) (F := by k_asm) (N := by k_asm) (hr := by assumption) (h0 := by omega) (h1 := by omega) ?_); intro dA dv dk h1 tk1 F1 N1 ld1 hdv; k_lt ld1))
  (k_with "call type:list" => (k_here; (with_reducible show wpAny _ _ (call (Value.type _) [Value.ref _]) _ _ _); k_dflt (refine' list_down (hh := by exact rfl) (F := by k_asm) (N := by k_asm) (hr := by assumption) (h0 := by omega) (h1 := by omega) (hb := by omega) ?_); intro lA lv lk h2 tk2 F2 N2 ll1 hlv; k_lt ll1))
  (k_with "eval Name" => (k_here; (fail_if_success (with_reducible show wpAny _ _ (eval _ (compEnvC _ _ _ _)) _ _ _)); k_dflt (refine' nameX_L2 (hx := by rfl) (hk := by rfl) (hd := by rfl) (F := by k_asm) (hv := by (first | exact rfl | assumption | ((repeat refine (if_neg (by decide)).trans ?_); first | assumption | exact if_pos rfl))) ?_; k_whole)))
  (k_with "call builtin:list.pop" => (k_here; (try dsimp only); (with_reducible show wpAny _ _ (call (Value.builtin "list.pop") [Value.ref _]) _ _ _); k_dflt (refine' kpa_pop (F := by k_asm) (N := by k_asm) (U := by k_upd) (hi := by assumption) (hne := by (first | assumption | exact pos1 (by assumption) (by assumption) | exact pos2 (by assumption) (by assumption) | exact pos3 (by assumption) (by assumption) (by assumption) (by omega))) (hz := by (rw [sizeLine_eq]; (first | omega | (rw [IntsAre.length (by assumption)]; omega)))) ?_); walk_at "i4a086b"))
  (k_with "subscriptTail" => (k_here; (with_reducible show wpAny _ _ (subscriptTail _ _ (Value.ref _) (Value.int _ _)) _ _ _); k_dflt (refine' item_anyK (hl := by is_list) (hi := by assumption) (h0 := by omega) (h1 := by omega) (hfit := by omega) ?_ (hs := by with_unfolding_all rfl)); intro _))
  (k_with "call builtin:list.append" => (k_here; (with_reducible show wpAny _ _ (call (Value.builtin _) [Value.ref _, _]) _ _ _); k_dflt (refine' append_K (F := by k_asm) (N := by k_asm) (U := by k_upd) ?_ (hsz := by (rw [sizeLine_eq]; simp only [List.size_toArray]; omega)); k_whole); walk_at "i81887c"))
  (k_with "call builtin:list.insert" => (k_here; (with_reducible show wpAny _ _ (call (Value.builtin _) [Value.ref _, Value.int _ _, Value.int _ _]) _ _ _); k_dflt (refine' insert_led (F := by k_asm) (N := by k_asm) (U := by k_upd) (h0 := by exact (fmod_lt _ (by omega)).1) (h1 := by exact Int.le_of_lt (Int.lt_of_lt_of_le (fmod_lt _ (by omega)).2 (by omega))) (hi := by assumption) (hz := by omega) ?_); walk_at "i163d1b"))
  (k_with "exec For Name Name cons nil" => (k_here; k_dflt (refine' wpAny_For ?_ (hs := by exact fun _ => rfl))))
  (k_with "exec For Name Call cons nil" => (k_here; k_dflt (refine' wpAny_For ?_ (hs := by exact fun _ => rfl))))
  (k_with "nums" => (exact kmk_upto (by with_reducible assumption) (by first | with_reducible assumption | omega)))
  (k_with "omega" => (first | with_reducible assumption | exact sz_mid (by with_reducible assumption) | exact sz_left (by with_reducible assumption) | lia))
  (k_with "i4a086b" => (intro h' t' F' N' hI'; (try dsimp only [List.nil_append, List.cons_append] at N'); revert h' t' F' N' hI'; intros))
  (k_with "i81887c" => (intro h' F' N'; (try simp only [List.push_toArray] at N'); revert h' F' N'; intros))
  (k_with "i163d1b" => (intro h' F' N' hI'; (try dsimp only [List.nil_append, List.cons_append] at N'); revert h' F' N' hI'; intros))
  trivial
set_option maxHeartbeats 4000000 in
theorem c_order (w : World) (q : Program) (mean : ExcName → Option Value) (mg mb : Str → Option Value) (loose : List Str) (tail : List (Addr × Obj)) (nr : Addr) (rvs : List Value) (rns : List Int) (rn : Nat) (size : Int) (ts : Tok) :
  ClG 8 rw_sn0078_01.row.prog w (K0 w.params) q loose mean mg mb 158 ((nr, listOf rvs.toArray rn) :: tail) [] (IntsAre rvs rns ∧ rns.length = 29 ∧ 3 ≤ size ∧ size ≤ 6 ∧ (∀ r ∈ rns, 0 ≤ r ∧ r < 5184)) [.ref nr, .int size ts]
    (fun v news' => ∃ D vs n ns, v = .ref D ∧ news' = (D, listOf vs.toArray n) :: (nr, listOf rvs.toArray rn) :: tail ∧ IntsAre vs ns ∧ ns.Perm (upTo size.toNat) ∧ AllLt D ((nr, listOf rvs.toArray rn) :: tail)) := by
  k_fill
  dsimp only [ClG]; intros; rename_i hpre _ _ hret; obtain ⟨hrv, hrl, hs3, hs6, hrb⟩ := hpre
  have hz0 : 0 ≤ size := by omega
  have hzm : 0 ≤ size - 1 := by omega
  have hzp : 0 ≤ size + 1 := by omega
  have hz3 : (0 : Int) ≤ 3 := by decide
  have hz2 : (0 : Int) ≤ 2 := by decide
  have hcut := fmod_lt (rns.getD (Int.toNat 3) 0) (k := size + 1) (by omega)
  k_dflt cell_enter
  k_steps
  rename_i oA hO lO hO2 FO NO hX tX tt1 tu1 tv1 hR FR NR eR
  refine' forRange size.toNat (OrdJ oA lA dA nr rvs rn tail size ts) ?hh (by k_asm) (by k_asm) hR ?hs ?hn ⟨_, _, [], dv, lv, [], dk, lk, 0, rfl, hdv, hlv, .nil, ?dl, rfl, ?pm, ?m1, ?m2, ?m3, ?m4, ?m5⟩ ?adr ?turn ?done ?ht
  case hh => exact rfl
  case hs => exact small_one (by omega) (by omega) (by omega) (by omega)
  case hn => exact rng_up (by omega)
  case ht => exact fun _ _ => rfl
  case dl =>
    simp only [List.length_map, List.length_range]
    rw [ord_sub hcut.1 (by omega)]
    exact Nat.add_sub_of_le (Int.toNat_le_toNat (Int.le_of_lt_add_one hcut.2))
  case pm =>
    have h1 : (size - 1 - ((rns.getD (Int.toNat 3) 0).fmod (size + 1) - 1)).toNat = size.toNat - ((rns.getD (Int.toNat 3) 0).fmod (size + 1)).toNat := ord_sub hcut.1 (by omega)
    have h2 : (size - 1 : Int) = ((size.toNat : Nat) : Int) - 1 := by rw [Int.toNat_of_nonneg (by omega)]
    rw [h1, h2]
    exact perm_start (Int.toNat_le_toNat (Int.le_of_lt_add_one hcut.2))
  case m1 => exact rfl
  case m2 => exact rfl
  case m3 => exact rfl
  case m4 => exact rfl
  case m5 => exact rfl
  case adr =>
    rintro i m nx ⟨d, l, o, dv, lv, ov, dk, lk, ok, rfl, _⟩ p hp
    have hp' := List.mem_map_of_mem (f := Prod.fst) hp
    exact List.mem_map.mp hp'
  case turn =>
    rintro i t m₂ nx hh gs tkk I o' hi ⟨d, l, o, dv, lv, ov, dk, lk, ok, rfl, hdv, hlv, hov, hlen, hol, hpm, hm1, hm2, hm3, hm4, hm5⟩ hI F' N' Q' hQ E₁ E₂
    k_lt hI
    have hovl : ov.length = i := hov.length.trans hol
    have hdvl : dv.length = d.length := hdv.length
    have hlvl : lv.length = l.length := hlv.length
    refine wpAny_assign_Name ?_
    k_steps
    all_goals first
      | (have hd9 : 0 < d.length := (by first | exact len3 (by assumption) hlen (by omega) | exact len2 (by assumption) | exact len1 (by assumption))
         have hq9 : IntsAre dv.dropLast d.dropLast := (by assumption)
         exact hQ.next _ _ _ _ _ (by assumption) (by first | exact news_tl (news_tl (by assumption)) | exact news_tl (by assumption)) ⟨d.dropLast, l, o ++ [d.getLastD 0], _, _, _, _, _, _, rfl, hq9, hlv, hov.append (.cons _ _ .nil), (by rw [List.length_dropLast]; omega), (by simp [hol]), perm_pop1 hpm hd9, (by exact (if_neg (by decide)).trans hm1), (by exact (if_neg (by decide)).trans hm2), (by exact (if_neg (by decide)).trans hm3), (by exact (if_neg (by decide)).trans hm4), (by exact (if_neg (by decide)).trans hm5)⟩)
      | (have hd9 : 0 < l.length := (len1 (by assumption))
         have hq9 : IntsAre lv.dropLast l.dropLast := (by assumption)
         exact hQ.next _ _ _ _ _ (by assumption) (by first | exact news_tl (news_tl (by assumption)) | exact news_tl (by assumption)) ⟨d, l.dropLast, o ++ [l.getLastD 0], _, _, _, _, _, _, rfl, hdv, hq9, hov.append (.cons _ _ .nil), (by rw [List.length_dropLast]; omega), (by simp [hol]), perm_pop2 hpm hd9, (by exact (if_neg (by decide)).trans hm1), (by exact (if_neg (by decide)).trans hm2), (by exact (if_neg (by decide)).trans hm3), (by exact (if_neg (by decide)).trans hm4), (by exact (if_neg (by decide)).trans hm5)⟩)
  case done =>
    rintro m₂ nx hh gs tkk ⟨d, l, o, dv, lv, ov, dk, lk, ok, rfl, hdv, hlv, hov, hlen, hol, hpm, hm1, hm2, hm3, hm4, hm5⟩ F' N'
    have hpl := fmod_lt (rns.getD (Int.toNat 10) 0) (k := size - 1) (by omega)
    have hoz : (o.length : Int) = size := by rw [hol]; exact Int.toNat_of_nonneg (by omega)
    have hY1 : (rns.getD (Int.toNat 10) 0).fmod (size - 1) < (o.length : Int) := by rw [hoz]; exact Int.lt_trans hpl.2 (Int.sub_lt_self _ (by decide))
    have hY2 : ((rns.getD (Int.toNat 10) 0).fmod (size - 1)).toNat + 1 < o.length := by
      rw [← Int.toNat_add_nat hpl.1 1]
      exact (Int.toNat_lt (Int.add_nonneg hpl.1 (by decide))).mpr (by rw [hoz]; exact Int.add_lt_of_lt_sub_right hpl.2)
    have hp2 : 0 ≤ (rns.getD (Int.toNat 10) 0).fmod (size - 1) + 2 := Int.add_nonneg hpl.1 (by decide)
    have ho6 : o.length ≤ 6 := by omega
    have hd0 : d = [] := List.length_eq_zero_iff.mp (by omega)
    have hl0 : l = [] := List.length_eq_zero_iff.mp (by omega)
    rw [hd0, hl0] at hpm
    have hpm2 : o.Perm (upTo size.toNat) := hpm
    dsimp only
    k_steps
    · refine' hret _ _ _ _ _ ⟨_, _, _, _, rfl, rfl, (by assumption), ?p1, ?q1⟩ (by k_asm) ?f1 ?g1
      case p1 =>
        have e : ((rns.getD (Int.toNat 10) 0).fmod (size - 1) + 1).toNat = ((rns.getD (Int.toNat 10) 0).fmod (size - 1)).toNat + 1 := ord_two hpl.1 1
        have e2 : ((rns.getD (Int.toNat 10) 0).fmod (size - 1) + 2).toNat = ((rns.getD (Int.toNat 10) 0).fmod (size - 1)).toNat + 2 := ord_two hpl.1 2
        have e3 : ((rns.getD 10 0).fmod (size - 1) + 2).toNat = ((rns.getD (Int.toNat 10) 0).fmod (size - 1)).toNat + 2 := e2
        rw [e, e3]
        exact (perm_swap hY2).trans hpm2
      case q1 =>
        have h9 := (by assumption : (_ < _ ∧ _ < _ ∧ _ < _ ∧ _ < _ ∧ oA < _ ∧ lA < _ ∧ dA < _ ∧ nr < _ ∧ AllLt _ tail))
        exact h9.2.2.2.2.2.2.2
      case f1 => exact news_sub (by assumption) (by first | ((repeat' (first | exact sub_self _ | with_reducible refine sub_cons ?_ | refine sub_cons ?_ | refine sub_skip ?_)); done) | (simp only [List.forall_mem_cons]; exact ⟨by k_mem, by k_mem, fun p hp => by repeat (first | assumption | refine List.mem_cons_of_mem _ ?_)⟩))
      case g1 => exact (clm_ext (by assumption) (by assumption) (by assumption) (by assumption) fun p hp => .inr (by repeat (first | assumption | refine List.mem_cons_of_mem _ ?_)))
    · rename_i pA hO5 lO5 hO6 FO5 NO5 hX5 tX5 tt5 tu5 tv5 hR5 FR5 NR5 eR5
      refine' forRange size.toNat (OrdJ2 pA oA lA dA nr (listOf ov.toArray ok) (listOf lv.toArray lk) (listOf dv.toArray dk) rvs rn tail size ts) ?hh5 (by k_asm) (by k_asm) hR5 ?hs5 ?hn5 ⟨[], [], 0, rfl, .nil, .refl _, ?m15, ?m25, ?m35⟩ ?adr5 ?turn5 ?done5 ?ht5
      case hh5 => exact rfl
      case hs5 => exact small_one (by omega) (by omega) (by omega) (by omega)
      case hn5 => exact rng_up (by omega)
      case ht5 => exact fun _ _ => rfl
      case m15 => exact (if_neg (by decide)).trans hm1
      case m25 => exact (if_neg (by decide)).trans hm2
      case m35 => exact if_pos rfl
      case adr5 =>
        rintro i m nx ⟨o, ov, ok, rfl, _⟩ p hp
        have hp' := List.mem_map_of_mem (f := Prod.fst) hp
        exact List.mem_map.mp hp'
      case turn5 =>
        rintro i t m₃ nx hh gs tkk I o' hi ⟨o, ov, ok, rfl, hov, hpm, hm1, hm2, hm5⟩ hI F' N' Q' hQ E₁ E₂
        k_lt hI
        have hovl : ov.length = i := hov.length.trans (hpm.length_eq.trans (upTo_len i))
        refine wpAny_assign_Name ?_
        k_steps
        exact hQ.next _ _ _ _ _ (by assumption) (by assumption) ⟨_, _, _, rfl, by assumption, perm_ins2 hpm (by omega), (by exact (if_neg (by decide)).trans hm1), (by exact (if_neg (by decide)).trans hm2), (by exact (if_neg (by decide)).trans hm5)⟩
      case done5 =>
        rintro m₃ nx hh gs tkk ⟨o, ov, ok, rfl, hov, hpm, hm1, hm2, hm5⟩ F' N'
        dsimp only
        k_steps
        refine' hret _ _ _ _ _ ⟨_, _, _, _, rfl, rfl, hov, hpm, lO5.2.2.2⟩ (by k_asm) ?f6 ?g6
        case f6 => exact news_sub (by assumption) (by first | ((repeat' (first | exact sub_self _ | with_reducible refine sub_cons ?_ | refine sub_cons ?_ | refine sub_skip ?_)); done) | (simp only [List.forall_mem_cons]; exact ⟨by k_mem, by k_mem, fun p hp => by repeat (first | assumption | refine List.mem_cons_of_mem _ ?_)⟩))
        case g6 => exact (clm_ext (by assumption) (by assumption) (by assumption) (by assumption) fun p hp => .inr (by repeat (first | assumption | refine List.mem_cons_of_mem _ ?_)))
    · refine' hret _ _ _ _ _ ⟨_, _, _, _, rfl, rfl, hov, hpm2, lO.2.2⟩ (by k_asm) ?f7 ?g7
      case f7 => exact news_sub (by assumption) (by first | ((repeat' (first | exact sub_self _ | with_reducible refine sub_cons ?_ | refine sub_cons ?_ | refine sub_skip ?_)); done) | (simp only [List.forall_mem_cons]; exact ⟨by k_mem, by k_mem, fun p hp => by repeat (first | assumption | refine List.mem_cons_of_mem _ ?_)⟩))
      case g7 => exact (clm_ext (by assumption) (by assumption) (by assumption) (by assumption) fun p hp => .inr (by repeat (first | assumption | refine List.mem_cons_of_mem _ ?_)))
theorem rz_Bare : True := by k_with_none; trivial
local macro_rules | `(tactic| omega) => `(tactic| omega (config := {}))
theorem bare_set {s : Shared} {g : Nat} {x : GenState} (h : AllBare s.gens) (hx : x.bare = true) : AllBare (s.setGen g x).gens := by
  intro y hy
  unfold Shared.setGen at hy
  rcases Array.mem_or_eq_of_mem_setIfInBounds hy with h1 | rfl
  · exact h y h1
  · exact hx
theorem runs_bare {M : Model} {Γ : PySem.Ctx} {p : Pos} {t : Sem Fin} {fs : List Frame} {s s' : Shared} {e : End} (r : Runs M Γ p t fs s e s') : AllBare s.gens → AllBare s'.gens := by
  induction r with
  | done => exact id
  | raise => exact id
  | again _ _ ih => exact ih
  | rule _ ih => exact ih
  | «at» _ ih => exact ih
  | load _ _ ih => exact ih
  | update _ _ ih => exact ih
  | loadIfAlive _ ih => exact ih
  | point _ ih => exact ih
  | alloc _ ih => exact ih
  | fresh _ ih => exact ih
  | ask _ ih => exact ih
  | choose _ _ ih => exact ih
  | os _ ih => exact ih
  | handled _ ih => exact ih
  | genState _ _ ih => exact ih
  | stack _ ih => exact ih
  | thread _ ih => exact ih
  | newGen _ ih => exact fun h => ih (h.push rfl)
  | call _ _ ih1 ih2 => exact fun h => ih2 (ih1 h)
  | callSusp _ ih => exact ih
  | yield => exact id
  | resumeFresh _ _ q _ ih1 ih2 => exact fun h => ih2 (bare_set (ih1 (bare_set h rfl)) (End.bare_of_quiet q))
  | resumeSuspended _ _ q _ ih1 ih2 => exact fun h => ih2 (bare_set (ih1 (bare_set h rfl)) (End.bare_of_quiet q))
  | resumeJustStarted _ _ _ ih => exact ih
  | resumeThrowFresh _ _ ih => exact fun h => ih (bare_set h rfl)
  | resumeRunning _ _ ih => exact ih
  | resumeFinished _ _ ih => exact ih
  | segRet _ _ ih1 ih2 => exact fun h => ih2 (ih1 h)
  | segGen _ _ ih1 ih2 => exact fun h => ih2 (bare_set (ih1 h) rfl)
  | segSuspOut _ _ ih => exact ih
  | segSuspGen _ _ q _ ih1 ih2 => exact fun h => ih2 (bare_set (ih1 h) (End.bare_of_quiet q))
theorem wakes_bare {M : Model} {Γ : PySem.Ctx} {p : Pos} {g : Nat} {r : Resume} {s s' : Shared} {res : GenResult} (w : Wakes M Γ p g r s res s') (h : AllBare s.gens) : AllBare s'.gens := by
  unfold Wakes at w
  split at w
  · exact w.elim
  · split at w
    · obtain ⟨e, s₁, hr, q, _, rfl⟩ := w
      exact bare_set (runs_bare hr (bare_set h rfl)) (End.bare_of_quiet q)
    · obtain ⟨_, rfl⟩ := w; exact h
    · obtain ⟨_, rfl⟩ := w; exact bare_set h rfl
  · obtain ⟨e, s₁, hr, q, _, rfl⟩ := w
    exact bare_set (runs_bare hr (bare_set h rfl)) (End.bare_of_quiet q)
  · obtain ⟨_, rfl⟩ := w; exact h
  · obtain ⟨_, rfl⟩ := w; exact h
theorem wp_bare {M : Model} {Γ : PySem.Ctx} {α : Type} {Q : α → Pos → Shared → Prop} {E : Value → Pos → Shared → Prop} (t : Sem α) : ∀ (p : Pos) (s : Shared), Sem.wp M Γ t Q E p s → AllBare s.gens →
    Sem.wp M Γ t (fun a p s' => Q a p s' ∧ AllBare s'.gens) (fun e p s' => E e p s' ∧ AllBare s'.gens) p s := by
  induction t with
  | pure a => exact fun p s h b => ⟨h, b⟩
  | raise e => exact fun p s h b => ⟨h, b⟩
  | unsupported _ => exact fun p s h b => h
  | finish _ => exact fun p s h b => h
  | rule _ k ih => exact fun p s h b => ih _ _ _ h b
  | «at» _ k ih => exact fun p s h b => ih _ _ _ h b
  | load a _ k ih => exact fun p s h b => let ⟨o, e, h⟩ := h; ⟨o, e, ih _ _ _ h b⟩
  | update a _ f k ih => exact fun p s h b => ⟨h.1, ih _ _ _ h.2 b⟩
  | loadIfAlive a k ih => exact fun p s h b => ih _ _ _ h b
  | point _ k ih => exact fun p s h b => ih _ _ _ h b
  | register _ _ => exact fun p s h b => h
  | alloc o k ih => exact fun p s h b => ih _ _ _ h b
  | fresh k ih => exact fun p s h b => ih _ _ _ h b
  | ask k ih => exact fun p s h b => ih _ _ _ h b
  | choose src n k ih => exact fun p s h b => ⟨h.1, ih _ _ _ h.2 b⟩
  | os q _ k ih => exact fun p s h b => ih _ _ _ h b
  | call c h' _ _ k ih => exact fun p s h b => let ⟨r, s', hr, h⟩ := h; ⟨r, s', hr, ih _ _ _ h (runs_bare hr b)⟩
  | handled own k ih => exact fun p s h b => ih _ _ _ h b
  | genState g k ih => exact fun p s h b => let ⟨o, e, h⟩ := h; ⟨o, e, ih _ _ _ h b⟩
  | newGen c k ih => exact fun p s h b => ih _ _ _ h (b.push rfl)
  | resume g r _ k ih => exact fun p s h b => let ⟨res, s', hw, h⟩ := h; ⟨res, s', hw, ih _ _ _ h (wakes_bare hw b)⟩
  | yield _ _ _ _ _ => exact fun p s h b => h
  | stack k ih => exact fun p s h b => ih _ _ _ h b
  | fork _ _ _ => exact fun p s h b => h
  | thread k ih => exact fun p s h b => ih _ _ _ h b
  | await _ _ _ _ _ _ => exact fun p s h b => h
theorem wpAny_bare {M : Model} {A : Around} {α : Type} {t : Sem α} {Q : α → Shared → Prop} {E : Value → Shared → Prop} {s : Shared} (h : wpAny M A t Q E s) (b : AllBare s.gens) :
    wpAny M A t (fun a s' => Q a s' ∧ AllBare s'.gens) (fun e s' => E e s' ∧ AllBare s'.gens) s := fun Γ p hΓ => wp_bare t p s (h Γ p hΓ) b
noncomputable def cards1 (size base : Int) (rl o : List Int) : List (List Nat) := (List.range size.toNat).map fun k : Nat => cardOf (base + o.getD ((k : Int)).toNat 0) (rl.getD (11 + (k : Int)).toNat 0) (rl.getD (17 + (k : Int)).toNat 0)
noncomputable def cards2 (size base : Int) (rl : List Int) : List (List Nat) := (List.range size.toNat).map fun k : Nat => cardOf (base + (k : Int)) (rl.getD (23 + (k : Int)).toNat 0) (rl.getD (22 - (k : Int)).toNat 0)
theorem cardOf_len {n : Int} (h0 : 208 ≤ n) (x y : Int) : 1 ≤ (cardOf n x y).length ∧ (cardOf n x y).length ≤ 11 := by
  have h1 := signOf_bd h0 x
  have h2 : (wordOf n x).length ≤ 4 := by
    unfold wordOf
    simp only [List.length_append, List.length_take, List.length_drop, List.length_cons, List.length_nil]
    omega
  have h3 := slashed_len y (wordOf n x) 0
  unfold cardOf
  simp only [List.length_append, List.length_cons, List.length_nil]
  split <;> (try simp only [List.length_append, List.length_cons, List.length_nil]) <;> omega
theorem cards1_bd {size base : Int} {rl o : List Int} (h0 : 208 ≤ base) (ho : ∀ x ∈ o, 0 ≤ x) : ∀ l ∈ cards1 size base rl o, 1 ≤ l.length ∧ l.length ≤ 11 := by
  intro l hl
  obtain ⟨k, _, rfl⟩ := List.mem_map.mp hl
  refine cardOf_len ?_ _ _
  have : 0 ≤ o.getD ((k : Int)).toNat 0 := by
    by_cases hk : ((k : Int)).toNat < o.length
    · exact ho _ (getD_mem hk)
    · rw [List.getD_eq_getElem?_getD, List.getElem?_eq_none (by omega)]; simp
  omega
theorem cards2_bd {size base : Int} {rl : List Int} (h0 : 208 ≤ base) : ∀ l ∈ cards2 size base rl, 1 ≤ l.length ∧ l.length ≤ 11 := by
  intro l hl
  obtain ⟨k, _, rfl⟩ := List.mem_map.mp hl
  exact cardOf_len (by omega) _ _
theorem sum_bd : ∀ (ls : List (List Nat)) (b : Nat), (∀ l ∈ ls, l.length ≤ b) → (ls.map List.length).sum ≤ b * ls.length
  | [], _, _ => by simp
  | a :: r, b, h => by
    have h1 := h a (.head _)
    have h2 := sum_bd r b fun l hl => h l (.tail _ hl)
    simp only [List.map_cons, List.sum_cons, List.length_cons]
    rw [Nat.mul_add, Nat.mul_one]
    omega
theorem getD_bd {rl : List Int} {i : Nat} {b : Int} (hl : i < rl.length) (h : ∀ r ∈ rl, 0 ≤ r ∧ r < b) : 0 ≤ rl.getD i 0 ∧ rl.getD i 0 < b := h _ (getD_mem hl)
theorem ivals_ints (iv : List (Int × Tok)) : IntsAre (ivals iv) (iv.map Prod.fst) := by
  induction iv with
  | nil => exact .nil
  | cons p r ih => exact .cons p.1 p.2 ih
theorem ivals_of {vs : List Value} {ns : List Int} (h : IntsAre vs ns) : ∃ iv, vs = ivals iv ∧ iv.map Prod.fst = ns := by
  induction h with
  | nil => exact ⟨[], rfl, rfl⟩
  | cons n t _ ih =>
    obtain ⟨iv, rfl, rfl⟩ := ih
    exact ⟨(n, t) :: iv, rfl, rfl⟩
theorem upTo_mem {o : List Int} {n : Nat} (h : o.Perm (upTo n)) : ∀ x ∈ o, 0 ≤ x ∧ x < n := by
  intro x hx
  have := h.mem_iff.mp hx
  unfold upTo at this
  obtain ⟨i, hi, rfl⟩ := List.mem_map.mp this
  have := List.mem_range.mp hi
  omega
section
variable {prog : Program} {w : World} {A : Around} {E : Value → Shared → Prop} {s : Shared} {h₀ : Heap} {L : Addr} {m : Str → Option Value} {news : List (Addr × Obj)} {l : List Nat} {t : Tok} {Q : Value → Shared → Prop} {value slice : PySem.Expr}
theorem slice_m1 (h : 1 ≤ l.length) : Txt.slice ⟨l.toArray⟩ none (some (-1)) = ⟨l.dropLast.toArray⟩ := by
  show StrLaws.sliceText _ none (some (-1)) = _
  have hl : (⟨l.toArray⟩ : Str).length = l.length := by simp [Str.length]
  rw [StrLaws.sliceText_neg_hi _ _ (by decide) (by rw [hl]; omega), hl, StrLaws.sliceText_to ⟨by omega, by simp; omega⟩]
  simp only [List.drop_zero]
  rw [List.dropLast_eq_take]
  congr 3
  rw [Int.sub_zero, Int.add_comm]; exact Int.toNat_sub l.length 1
theorem sliceTo_m1 {uj : Tok} (F : Fr h₀ L s.heap m) (N : News h₀ L s.heap news) (h1 : 1 ≤ l.length) (hz : l.length ≤ 100000) (h : ∀ h' t' k, Fr h₀ L h' m → News h₀ L h' news → Q (.str ⟨l.dropLast.toArray⟩ t') { s with heap := h', toks := k })
    (hs : subscripted slice false (.str ⟨l.toArray⟩ t) (.ref s.heap.objs.size) = operate [.ref s.heap.objs.size, .str ⟨l.toArray⟩ t] (getItem (.str ⟨l.toArray⟩ t) (.ref s.heap.objs.size)) := by with_unfolding_all rfl)
    (ht : ∀ r, letTemporaryGo value (.str ⟨l.toArray⟩ t) r = pure () := by intro _; with_unfolding_all rfl) :
    wpAny (model prog w) A (subscriptTail value slice (.str ⟨l.toArray⟩ t) (.ref s.heap.objs.size)) Q E { s with heap := s.heap.push { cls := .type "slice", data := .fields #[.none, .int (-1) uj, .none] } } :=
  slice_strN_ns_len F N (fun h' t' k a b _ => by rw [slice_m1 h1]; exact h h' t' k a b) hs ht (by rw [l_len, sizeLine_eq]; omega)
end
section
variable {w : World} {q : Program} {mean : ExcName → Option Value} {mg mb : Str → Option Value} {loose : List Str} {tail news : List (Addr × Obj)}
  {dp un : Nat} {gd : Option (List Code)} {cn : Str} {cs : Scope} {a : Addr} {ccd : Value} {cl : List (Str × Addr)} {outer : List Env} {A₀ : Around} {base h₀ : Heap} {L : Addr} {m : Str → Option Value} {s : Shared} {E : Value → Shared → Prop} {Q : Value → Shared → Prop}
theorem g_order {nr : Addr} {rvs : List Value} {rns : List Int} {rn : Nat} {size : Int} {ts : Tok} (F : Fr h₀ L s.heap m) (N : News h₀ L s.heap news) (hm : (nr, listOf rvs.toArray rn) ∈ news) (hi : IntsAre rvs rns) (hl : rns.length = 29) (h3 : 3 ≤ size) (h6 : size ≤ 6) (hb : ∀ r ∈ rns, 0 ≤ r ∧ r < 5184)
    (B : Below A₀ base outer h₀) (X : (K0 w.params).In h₀) (T : Top q loose mean mg mb h₀) (hk : cs.kind = .function) (hd : dp + 8 < recursionLimit) (hu : un + 64 * 8 < cLine)
    (h : ∀ D vs n ns h' gs' tk', Fr h₀ L h' m → News h₀ L h' ((D, listOf (List.toArray vs) n) :: news) → IntsAre vs ns → ns.Perm (upTo size.toNat) → (∀ p ∈ news, p.1 < D) → Q (.ref D) { s with heap := h', gens := gs', toks := tk' }) :
    wpAny (model rw_sn0078_01.row.prog w) (ktrTop dp un gd cn cs L a ccd cl outer) (call (.ref 158) [.ref nr, .int size ts]) Q E s := by
  refine wpAny_call (c_order w q mean mg mb loose news nr rvs rns rn size ts dp un gd cn cs a ccd cl outer A₀ base h₀ L m s Q E B F X (fun p hp => ?_) T hk ⟨hi, hl, h3, h6, hb⟩ hd hu ?_)
  · rcases List.mem_cons.mp hp with rfl | hp
    · exact N _ hm
    · exact N p hp
  · rintro v news' h' gs' tk' ⟨D, vs, n, ns, rfl, rfl, hi', hp, hlt⟩ F' N' x
    refine h D vs n ns h' gs' tk' F' (fun p hp => ?_) hi' hp (fun p hp => tb_ltOf hlt p (.tail _ hp))
    rcases List.mem_cons.mp hp with rfl | hp
    · exact N' _ (.head _)
    · exact N' p (.tail _ (.tail _ hp))
theorem g_card {n x y : Int} {tn tx ty : Tok} (F : Fr h₀ L s.heap m) (N : News h₀ L s.heap news) (hz : 208 ≤ n ∧ n ≤ 268 ∧ 0 ≤ x ∧ x < 5184 ∧ 0 ≤ y ∧ y < 5184)
    (B : Below A₀ base outer h₀) (X : (K0 w.params).In h₀) (T : Top q loose mean mg mb h₀) (hk : cs.kind = .function) (hd : dp + 3 < recursionLimit) (hu : un + 64 * 3 < cLine)
    (h : ∀ t h' gs' tk', Fr h₀ L h' m → News h₀ L h' news → ExtBut [] s.heap h' → Q (.str ⟨(cardOf n x y).toArray⟩ t) { s with heap := h', gens := gs', toks := tk' }) :
    wpAny (model rw_sn0078_01.row.prog w) (ktrTop dp un gd cn cs L a ccd cl outer) (call (.ref 165) [.int n tn, .int x tx, .int y ty]) Q E s := by
  refine wpAny_call (c_card w q mean mg mb loose news n x y tn tx ty dp un gd cn cs a ccd cl outer A₀ base h₀ L m s Q E B F X N T hk hz hd hu ?_)
  rintro v news' h' gs' tk' ⟨t, rfl, rfl⟩ F' N' x'
  exact h t h' gs' tk' F' N' x'
theorem g_numbers {l : List Nat} {tx : Tok} (F : Fr h₀ L s.heap m) (N : News h₀ L s.heap ((167, tabObj #[]) :: news)) (hx : l.length ≤ 900) (ho : TailOff 167 news)
    (B : Below A₀ base outer h₀) (X : (K0 w.params).In h₀) (T : Top q loose mean mg mb h₀) (hk : cs.kind = .function) (hd : dp + 9 < recursionLimit) (hu : un + 64 * 9 < cLine)
    (h : ∀ D nD iv cc oc vs tq h' gs' tk', Fr h₀ L h' m → News h₀ L h' ((D, listOf (List.toArray (ivals iv)) nD) :: (167, tabObj #[rawInt 187, rawInt 18, .ref cc]) :: (cc, oc) :: news) → iv.map Prod.fst = numsOf l → oc.data = .fields vs → vs[1]? = some (.str (Str.ofString "_law_reader.<locals>.<lambda>") tq) → AllLt cc ((167, tabObj #[]) :: news) → @LT.lt Nat _ cc D → Q (.ref D) { s with heap := h', gens := gs', toks := tk' }) :
    wpAny (model rw_sn0078_01.row.prog w) (ktrTop dp un gd cn cs L a ccd cl outer) (call (.ref 182) [.str ⟨l.toArray⟩ tx]) Q E s := by
  refine wpAny_call (c_numbers w q mean mg mb loose news ⟨l.toArray⟩ tx dp un gd cn cs a ccd cl outer A₀ base h₀ L m s Q E B F X N T hk ⟨by simpa [Str.length] using hx, ho⟩ hd hu ?_)
  rintro v news' h' gs' tk' ⟨D, nD, iv, cc, oc, vs, tq, rfl, rfl, e1, e2, e3, e4, e5⟩ F' N' x'
  exact h D nD iv cc oc vs tq h' gs' tk' F' N' e1 e2 e3 e4 e5
end
local macro_rules | `(tactic| omega) => `(tactic| k_extra "omega")
theorem rg_ConL1_0 : True := by
  k_with_none
  (k_with "omega" => (first | lia))
  trivial
noncomputable def rowA (ns : List Int) : List Int := (ns.take 29).map fun x => x.fmod 5184
noncomputable def rowB (ns : List Int) : List Int := rowA ns ++ (List.range (29 - (rowA ns).length)).map fun i : Nat => 7 * (((rowA ns).length : Int) + (i : Int)) + 1
theorem rowA_len (ns : List Int) : (rowA ns).length ≤ 29 := by simp [rowA]; omega
theorem rowB_len (ns : List Int) : (rowB ns).length = 29 := by
  have := rowA_len ns
  simp only [rowB, List.length_append, List.length_map, List.length_range]
  omega
theorem rowB_at (ns : List Int) (k : Int) (h : k < 29) : k < ((rowB ns).length : Int) := by rw [rowB_len]; exact h
theorem rowB_mem (ns : List Int) : ∀ r ∈ rowB ns, 0 ≤ r ∧ r < 5184 := by
  intro r hr
  have hA := rowA_len ns
  rcases List.mem_append.mp hr with h | h
  · obtain ⟨x, _, rfl⟩ := List.mem_map.mp h
    exact fmod_lt x (by decide)
  · obtain ⟨i, hi, rfl⟩ := List.mem_map.mp h
    have := List.mem_range.mp hi
    omega
theorem range_takeL (n i : Nat) (h : i < n) {α : Type} (f : Nat → α) : ((List.range n).map f).take (i + 1) = ((List.range n).map f).take i ++ [f i] := by
  rw [List.take_add_one]
  simp [h]
noncomputable def Stop (p : Prop) : Prop := p
theorem stopHere {p : Prop} (h : Stop p) : p := h
theorem rg_ConL1_1 : True := by
  k_with_none
  (k_with "my_cell_enter" => (refine' code_defCG (B := by k_asm) (F := by k_asm) (by k_asm) (N := by k_asm) (T := by k_asm) (hA := by exact rfl) (hf := by exact rfl) (hke := by assumption) (ho := by k_is) (hcd := by k_is) (hroom := by ktr_room) (hbind := by exact BindsTo.of_eq rfl) (hkind := by exact rfl) (hnd := by decide +kernel) ?_ (hco := by exact rfl) (hgen := by exact rfl) (hk := by exact rfl); k_whole; intro g' L' h' tk' cells' FG' F' N' Y' B' X' T' l1 GS'; (try k_lt l1); (try (first | have tl' := TailLt.mk l1 | have tl' := TailLt.mk l1.2 | have tl' := TailLt.mk l1.2.2 | have tl' := TailLt.mk l1.2.2.2 | have tl' := TailLt.mk l1.2.2.2.2 | have tl' := TailLt.mk l1.2.2.2.2.2)); k_cells Y'; (try simp only [List.cons_append, List.nil_append] at N'); (try dsimp only); (try k_lift B'); (try k_fold)))
  (k_with "eval Constant int" => (refine constI ?_))
  (k_with "eval Constant str" => (refine constS ?_))
  (k_with "eval Call" => ((show let Q9 := _; wpAny _ _ _ Q9 _ _); intro Q9; refine Call_ ?_))
  (k_with "eval Call Attribute" => ((show let Q9 := _; wpAny _ _ _ Q9 _ _); intro Q9; refine MethodCall_ ?_))
  (k_with "exec If" => ((show let Q9 := _; wpAny _ _ _ Q9 _ _); intro Q9; refine wpAny_If ?_))
  (k_with "exec Assign" => ((show let Q9 := _; wpAny _ _ _ Q9 _ _); intro Q9; refine wpAny_Assign_Name ?_))
  (k_with "exec AugAssign" => ((show let Q9 := _; wpAny _ _ _ Q9 _ _); intro Q9; refine wpAny_AugAssign_Name ?_))
  (k_with "eval BinOp" => ((show let Q9 := _; wpAny _ _ _ Q9 _ _); intro Q9; refine wpAny_BinOp ?_))
  (k_with "eval Compare" => ((show let Q9 := _; wpAny _ _ _ Q9 _ _); intro Q9; refine wpAny_Compare1 ?_))
  (k_with "isTrue Compare" => ((show let Q9 := _; wpAny _ _ _ Q9 _ _); intro Q9; refine wpAny_isTrue_Compare1 ?_))
  (k_with "eval Subscript" => ((show let Q9 := _; wpAny _ _ _ Q9 _ _); intro Q9; refine Subscript_ ?_))
  (k_with "my_k_all" => (refine' TailLt.ne (h := by assumption) (hc := by first | exact Nat.le_refl _ | omega)))
  (k_with "my_k_all" => (exact TailOff.ne (by assumption)))
  (k_with "my_k_all" => (exact allLt_ne (by assumption)))
  (k_with "a" => (with_reducible assumption))
  (k_with "cn" => (first | k_extra "a" | (apply And.right; first | k_extra "a" | (apply And.right; first | k_extra "a" | (apply And.right; first | k_extra "a" | (apply And.right; first | k_extra "a" | (apply And.right; first | k_extra "a" | (apply And.right; first | k_extra "a" | (apply And.right; first | k_extra "a" | (apply And.right; first | k_extra "a" | (apply And.right; first | k_extra "a" | (apply And.right; first | k_extra "a" | (apply And.right; first | k_extra "a" | (apply And.right; first | k_extra "a" | (apply And.right; k_extra "a")))))))))))))))
  (k_with "cj" => (first | k_extra "cn" | (apply And.left; k_extra "cn")))
  (k_with "lt" => ((first | (with_reducible show @LT.lt Nat _ _ _) | (with_reducible show @LE.le Nat _ _ _)); first | k_extra "cj" | (with_reducible refine Nat.lt_of_succ_lt ?_; k_extra "cj") | (with_reducible refine Nat.le_of_lt ?_; first | k_extra "cj" | (refine Nat.lt_of_succ_lt ?_; k_extra "cj")) | (with_reducible refine Nat.lt_trans ?_ (by with_reducible assumption); k_extra "lt")))
  (k_with "lt0" => (first | with_reducible exact Nat.lt_succ_self _ | with_reducible assumption | (with_reducible refine Nat.lt_succ_of_lt ?_; k_extra "lt0")))
  (k_with "my_k_ne" => (refine neN ?_; (try dsimp only); first | (refine Nat.ne_of_lt ?_; k_extra "lt0") | (refine Nat.ne_of_gt ?_; k_extra "lt0") | (refine Nat.ne_of_lt ?_; k_extra "lt") | (refine Nat.ne_of_gt ?_; k_extra "lt")))
  (k_with "eval Name" => (k_here; (fail_if_success (with_reducible show wpAny _ _ (eval _ (compEnvC _ _ _ _)) _ _ _)); k_dflt (refine' nameX_L2 (hx := by rfl) (hk := by rfl) (hd := by rfl) (F := by k_asm) (hv := by (first | exact rfl | assumption | ((repeat refine (if_neg (by decide)).trans ?_); first | assumption | exact if_pos rfl))) ?_; k_whole)))
  (k_with "exec Assign cons ListComp" => (k_here; k_dflt (refine wpAny_Assign_Name ?_ (hs := by with_unfolding_all rfl))))
  (k_with "exec Assign cons ListComp" => (k_here; k_dflt (refine' compJ_assign (hsw := by with_unfolding_all rfl) (hclos := by exact rfl) (hcell := by decide) (hkind := by exact rfl) (hnames := by decide) (hx := by exact rfl) (hy := by exact rfl) (hp := by exact rfl) ?_ (hs := by exact fun _ => rfl)); (try dsimp only)))
  (k_with "eval ListComp" => (k_here; k_dflt (refine' compJ_eval (hclos := by exact rfl) (hcell := by decide) (hkind := by exact rfl) (hnames := by decide) (hx := by exact rfl) ?_ (hs := by exact fun _ => rfl)); (try dsimp only)))
  (k_with "binaryOp Add ref ref" => (k_here; (with_reducible show wpAny _ _ (binaryOp _ (Value.ref _) (Value.ref _)) _ _ _); k_dflt (refine' kmk_add_ints (F := by k_asm) (N := by k_asm) (ha := by kmk_list) (hb := by kmk_list) (hi := by first | assumption | l_ints) (hj := by first | assumption | l_ints) ?_ (hz := by (rw [sizeLine_eq]; (try simp only [List.length_map, List.length_range, List.length_cons, List.length_nil, List.length_append]); omega))); walk_at "ibe5284"))
  (k_with "subscriptTail" => (k_here; (with_reducible show wpAny _ _ (subscriptTail _ _ (Value.ref _) (Value.int _ _)) _ _ _); k_dflt (refine' item_anyK (hl := by is_list) (hi := by assumption) (h0 := by omega) (h1 := by first | exact rowB_at _ _ (by decide) | omega) (hfit := by omega) ?_ (hs := by with_unfolding_all rfl)); intro _))
  (k_with "execs cons" => ((with_reducible show wpAny _ _ (execs (Stmt.Assign [Expr.Name (Str.ofString "order") _] _ _ :: _) _) _ _ _); (with_reducible refine stopHere ?_)))
  (k_with "omega" => (first | k_extra "lt" | lia))
  (k_with "ibe5284" => (intro D' ws' h' F' N' l1 hI'; (try k_lt l1); revert D' ws' h' F' N' l1 hI'; intros))
  trivial
set_option maxHeartbeats 4000000 in
theorem law1 {w : World} {q : Program} {mean : ExcName → Option Value} {mg mb : Str → Option Value} {loose : List Str} {tail : List (Addr × Obj)}
  {dp un : Nat} {gd : Option (List Code)} {f : Addr} {cdv : Value} {outer : List Env} {A₀ : Around} {base h₀ : Heap} {L : Addr} {m : Str → Option Value} {s : Shared} {E : Value → Shared → Prop} {Q : Flow → Shared → Prop} {sc : Scope} {b : List Stmt} {o1 o2 o3 o4 o5 o6 o7 o8 : Obj} {sl : Addr} {vs : List Value} {ns : List Int}
    (hsc : scAt 71 = some sc) (hb : defBody 71 = b) (B : Below A₀ base outer h₀) (X : (K0 w.params).In h₀) (T : Top q loose mean mg mb h₀) (hd : dp + 12 < recursionLimit) (hu : un + 64 * 12 < cLine) (F : Fr h₀ L s.heap m) (hm : m (Str.ofString "script") = some (.ref sl)) (N : News h₀ L s.heap ((L + 1 + 1 + 1 + 1 + 1 + 1 + 1 + 1, o8) :: (L + 1 + 1 + 1 + 1 + 1 + 1 + 1, o7) :: (L + 1 + 1 + 1 + 1 + 1 + 1, o6) :: (L + 1 + 1 + 1 + 1 + 1, o5) :: (L + 1 + 1 + 1 + 1, o4) :: (L + 1 + 1 + 1, o3) :: (L + 1 + 1, o2) :: (L + 1, o1) :: tail)) (hlt : TailLt L tail)
    (d1 : o1.data = .cell none) (d2 : o2.data = .cell none) (d3 : o3.data = .cell none) (hsl : h₀.IsList sl vs.toArray) (hi : IntsAre vs ns) (hl : ns.length ≤ 63)
    (next : ∀ (m' : Str → Option Value) (p1 p3 : Obj) (nr : Addr) (rv : List Value) (n : Nat) (ts tb : Tok) h' gs tk, Fr h₀ L h' m' → News h₀ L h' ((nr, listOf rv.toArray n) :: (L + 1 + 1 + 1 + 1 + 1 + 1 + 1 + 1, o8) :: (L + 1 + 1 + 1 + 1 + 1 + 1 + 1, o7) :: (L + 1 + 1 + 1 + 1 + 1 + 1, o6) :: (L + 1 + 1 + 1 + 1 + 1, o5) :: (L + 1 + 1 + 1 + 1, o4) :: (L + 1 + 1 + 1, p3) :: (L + 1 + 1, o2) :: (L + 1, p1) :: tail) → IntsAre rv (rowB ns) → p1.data = .cell (some (.ref nr)) → p3.data = .cell (some (.int (208 + ((rowB ns).getD 1 0).fmod 56) tb)) → m' (Str.ofString "size") = some (.int (3 + ((rowB ns).getD 0 0).fmod 4) ts) → @LT.lt Nat _ (L + 1 + 1 + 1 + 1 + 1 + 1 + 1 + 1) nr → AllLt nr tail →
      wpAny (model rw_sn0078_01.row.prog w) (ktrTop dp un gd (Str.ofString "law") sc L f cdv (cellsFrom (L + 1) sc.names []) outer) (execs (b.drop 4) (envOfC (Str.ofString "law") sc L f cdv)) Q E { s with heap := h', gens := gs, toks := tk }) :
    wpAny (model rw_sn0078_01.row.prog w) (ktrTop dp un gd (Str.ofString "law") sc L f cdv (cellsFrom (L + 1) sc.names []) outer) (execs b (envOfC (Str.ofString "law") sc L f cdv)) Q E s := by
  revert X; k_fill; intro X
  have h2 : scAt 71 = some _ := rfl
  have e2 := hsc.symm.trans h2
  clear hsc h2
  injection e2 with e2
  subst e2
  have h1 : defBody 71 = _ := rfl
  have e1 := hb.symm.trans h1
  clear hb h1
  subst e1
  dsimp only [List.drop] at next
  have hls : s.heap.IsList sl vs.toArray := hsl.at fun o e => F.keep _ o e
  (show let A' := _; wpAny _ A' _ _ _ _); intro A'
  k_steps
  rename_i D9 ws9 h9 F9 N9 hI9 hC9 hL9 l9
  have hwl : ws9.length = min 29 ns.length := by rw [hI9.length, hC9]
  refine' compListC (vs := ws9) (fun i ys => IntsAre ys ((rowA ns).take i)) ?hh F9 N9 (by k_mem) ?hz .nil ?hlen ?turn ?done
  case hh => exact rfl
  case hz => rw [sizeLine_eq]; omega
  case hlen =>
    rintro i ys h
    have := h.length
    rw [List.length_take] at this; omega
  case turn =>
    rintro i v ys D2 C I nD2 oC o' hh gs tkk mC hv hys hI hID hDC hC hmC F' N' Q' hQ E₁ E₂
    k_lt hI
    obtain ⟨x, tx, rfl, hxi⟩ := hI9.at i v hv
    have hst : (rowA ns).take (i + 1) = (rowA ns).take i ++ [x.fmod 5184] := by
      unfold rowA; rw [List.take_add_one, List.getElem?_map, hxi]; rfl
    refine wpAny_tests_nil ?_
    rw [if_pos rfl]
    k_steps
    refine' hQ.next _ _ _ _ (by assumption) (by assumption) ?s1
    case s1 =>
      rw [hst]; exact hys.append (.cons _ _ .nil)
  case done =>
    rintro D2 nD2 ys hh gs tkk hys hD2 F' N'
    have hal : (rowA ns).length = ws9.length := by rw [hI9.length]; simp [rowA]
    rw [← hal, List.take_length] at hys
    have hA9 := rowA_len ns
    k_lt hD2
    (try k_unmd)
    k_steps
    rename_i hR FR NR eR
    obtain ⟨o1b, NR2, d1b⟩ : ∃ o : Obj, News _ L _ ((D2, listOf ys.toArray nD2) :: (D9, listOf ws9.toArray 0) :: (L + 1 + 1 + 1 + 1 + 1 + 1 + 1 + 1, o8) :: (L + 1 + 1 + 1 + 1 + 1 + 1 + 1, o7) :: (L + 1 + 1 + 1 + 1 + 1 + 1, o6) :: (L + 1 + 1 + 1 + 1 + 1, o5) :: (L + 1 + 1 + 1 + 1, o4) :: (L + 1 + 1 + 1, o3) :: (L + 1 + 1, o2) :: (L + 1, o) :: tail) ∧ o.data = .cell (some (.ref D2)) := ⟨_, NR, by assumption⟩
    clear NR
    refine' compRangeC (29 - (rowA ns).length) (fun i ys2 => IntsAre ys2 (((List.range (29 - (rowA ns).length)).map fun i : Nat => 7 * (((rowA ns).length : Int) + (i : Int)) + 1).take i)) ?hh3 (by k_asm) (by k_asm) hR ?hs3 ?hn3 ?hz3 .nil ?hlen3 ?turn3 ?done3
    case hh3 => exact rfl
    case hs3 => exact small_one (by omega) (by omega) (by omega) (by omega)
    case hn3 => rw [rangeSize_nat]; omega
    case hz3 => rw [sizeLine_eq]; omega
    case hlen3 =>
      rintro i ys h
      have := h.length
      rw [List.length_take] at this; omega
    case turn3 =>
      rintro i ti ys2 D3 C I n3 oC o' hh gs tkk mC hi hys2 hI hID hDC hC hmC F' N' Q' hQ E₁ E₂
      k_lt hI
      refine wpAny_tests_nil ?_
      rw [if_pos rfl]
      have hst : ((List.range (29 - (rowA ns).length)).map fun i : Nat => 7 * (((rowA ns).length : Int) + (i : Int)) + 1).take (i + 1) = ((List.range (29 - (rowA ns).length)).map fun i : Nat => 7 * (((rowA ns).length : Int) + (i : Int)) + 1).take i ++ [7 * (((rowA ns).length : Int) + (i : Int)) + 1] := range_takeL _ _ hi _
      k_steps
      refine' hQ.next _ _ _ _ (by assumption) (by assumption) ?s3
      case s3 =>
        rw [hst]; exact hys2.append (.cons _ _ .nil)
    case done3 =>
      rintro D3 nD3 ys2 hh gs tkk hys2 hD3 F' N'
      rw [List.take_of_length_le (by simp)] at hys2
      have hB9 := rowB_len ns
      k_lt hD3
      (try k_unmd)
      k_steps
      unfold Stop
      refine next _ _ _ _ _ _ _ _ _ _ _ (by assumption) (news_sub (by assumption) (by first | ((repeat' (first | exact sub_self _ | with_reducible refine sub_cons ?_ | refine sub_cons ?_ | refine sub_skip ?_)); done) | (simp only [List.forall_mem_cons]; exact ⟨by k_mem, by k_mem, by k_mem, by k_mem, by k_mem, by k_mem, by k_mem, by k_mem, by k_mem, fun p hp => by repeat (first | assumption | refine List.mem_cons_of_mem _ ?_)⟩))) (by assumption) (by assumption) (by assumption) (if_pos rfl) ?_ ?_
      all_goals (first | omega | exact TailLt.up hlt (by omega))
theorem rg_ConL2_0 : True := by
  k_with_none
  (k_with "omega" => (first | lia))
  trivial
theorem rg_ConL2_1 : True := by
  k_with_none
  (k_with "my_cell_enter" => (refine' code_defCG (B := by k_asm) (F := by k_asm) (by k_asm) (N := by k_asm) (T := by k_asm) (hA := by exact rfl) (hf := by exact rfl) (hke := by assumption) (ho := by k_is) (hcd := by k_is) (hroom := by ktr_room) (hbind := by exact BindsTo.of_eq rfl) (hkind := by exact rfl) (hnd := by decide +kernel) ?_ (hco := by exact rfl) (hgen := by exact rfl) (hk := by exact rfl); k_whole; intro g' L' h' tk' cells' FG' F' N' Y' B' X' T' l1 GS'; (try k_lt l1); (try (first | have tl' := TailLt.mk l1 | have tl' := TailLt.mk l1.2 | have tl' := TailLt.mk l1.2.2 | have tl' := TailLt.mk l1.2.2.2 | have tl' := TailLt.mk l1.2.2.2.2 | have tl' := TailLt.mk l1.2.2.2.2.2)); k_cells Y'; (try simp only [List.cons_append, List.nil_append] at N'); (try dsimp only); (try k_lift B'); (try k_fold)))
  (k_with "eval Constant int" => (refine constI ?_))
  (k_with "eval Constant str" => (refine constS ?_))
  (k_with "eval Call" => ((show let Q9 := _; wpAny _ _ _ Q9 _ _); intro Q9; refine Call_ ?_))
  (k_with "eval Call Attribute" => ((show let Q9 := _; wpAny _ _ _ Q9 _ _); intro Q9; refine MethodCall_ ?_))
  (k_with "exec If" => ((show let Q9 := _; wpAny _ _ _ Q9 _ _); intro Q9; refine wpAny_If ?_))
  (k_with "exec Assign" => ((show let Q9 := _; wpAny _ _ _ Q9 _ _); intro Q9; refine wpAny_Assign_Name ?_))
  (k_with "exec AugAssign" => ((show let Q9 := _; wpAny _ _ _ Q9 _ _); intro Q9; refine wpAny_AugAssign_Name ?_))
  (k_with "eval BinOp" => ((show let Q9 := _; wpAny _ _ _ Q9 _ _); intro Q9; refine wpAny_BinOp ?_))
  (k_with "eval Compare" => ((show let Q9 := _; wpAny _ _ _ Q9 _ _); intro Q9; refine wpAny_Compare1 ?_))
  (k_with "isTrue Compare" => ((show let Q9 := _; wpAny _ _ _ Q9 _ _); intro Q9; refine wpAny_isTrue_Compare1 ?_))
  (k_with "eval Subscript" => ((show let Q9 := _; wpAny _ _ _ Q9 _ _); intro Q9; refine Subscript_ ?_))
  (k_with "my_k_all" => (refine' TailLt.ne (h := by assumption) (hc := by first | exact Nat.le_refl _ | omega)))
  (k_with "my_k_all" => (exact TailOff.ne (by assumption)))
  (k_with "my_k_all" => (exact allLt_ne (by assumption)))
  (k_with "a" => (with_reducible assumption))
  (k_with "lt" => ((first | (with_reducible show @LT.lt Nat _ _ _) | (with_reducible show @LE.le Nat _ _ _)); first | k_extra "a" | (with_reducible refine Nat.lt_of_succ_lt ?_; k_extra "a") | (with_reducible refine Nat.le_of_lt ?_; first | k_extra "a" | (refine Nat.lt_of_succ_lt ?_; k_extra "a")) | (with_reducible refine Nat.lt_trans ?_ (by with_reducible assumption); k_extra "lt")))
  (k_with "lt0" => (first | with_reducible exact Nat.lt_succ_self _ | with_reducible assumption | (with_reducible refine Nat.lt_succ_of_lt ?_; k_extra "lt0")))
  (k_with "my_k_ne" => (refine neN ?_; (try dsimp only); first | (refine Nat.ne_of_lt ?_; k_extra "lt0") | (refine Nat.ne_of_gt ?_; k_extra "lt0") | (refine Nat.ne_of_lt ?_; k_extra "lt") | (refine Nat.ne_of_gt ?_; k_extra "lt")))
  (k_with "eval Name" => (k_here; (fail_if_success (with_reducible show wpAny _ _ (eval _ (compEnvC _ _ _ _)) _ _ _)); k_dflt (refine' nameX_L2 (hx := by rfl) (hk := by rfl) (hd := by rfl) (F := by k_asm) (hv := by (first | exact rfl | assumption | ((repeat refine (if_neg (by decide)).trans ?_); first | assumption | exact if_pos rfl))) ?_; k_whole)))
  (k_with "exec Assign cons ListComp" => (k_here; k_dflt (refine wpAny_Assign_Name ?_ (hs := by with_unfolding_all rfl))))
  (k_with "exec Assign cons ListComp" => (k_here; k_dflt (refine' compJ_assign (hsw := by with_unfolding_all rfl) (hclos := by exact rfl) (hcell := by decide) (hkind := by exact rfl) (hnames := by decide) (hx := by exact rfl) (hy := by exact rfl) (hp := by exact rfl) ?_ (hs := by exact fun _ => rfl)); (try dsimp only)))
  (k_with "eval ListComp" => (k_here; k_dflt (refine' compJ_eval (hclos := by exact rfl) (hcell := by decide) (hkind := by exact rfl) (hnames := by decide) (hx := by exact rfl) ?_ (hs := by exact fun _ => rfl)); (try dsimp only)))
  (k_with "binaryOp Add ref ref" => (k_here; (with_reducible show wpAny _ _ (binaryOp _ (Value.ref _) (Value.ref _)) _ _ _); k_dflt (refine' kmk_add_ints (F := by k_asm) (N := by k_asm) (ha := by kmk_list) (hb := by kmk_list) (hi := by first | assumption | l_ints) (hj := by first | assumption | l_ints) ?_ (hz := by (rw [sizeLine_eq]; (try simp only [List.length_map, List.length_range, List.length_cons, List.length_nil, List.length_append]); omega))); walk_at "ibe5284"))
  (k_with "subscriptTail" => (k_here; (with_reducible show wpAny _ _ (subscriptTail _ _ (Value.ref _) (Value.int _ _)) _ _ _); k_dflt (refine' item_anyK (hl := by is_list) (hi := by assumption) (h0 := by omega) (h1 := by omega) (hfit := by omega) ?_ (hs := by with_unfolding_all rfl)); intro _))
  (k_with "call ref" => (k_here; (with_reducible show wpAny _ _ (call (Value.ref 158) [Value.ref _, Value.int _ _]) _ _ _); k_dflt (refine' g_order (F := by k_asm) (N := by k_asm) (hm := by k_mem) (hi := by assumption) (hl := by assumption) (h3 := by omega) (h6 := by omega) (hb := by assumption) (B := by k_asm) (X := by k_asm) (T := by k_asm) (hk := by first | exact rfl | assumption) (hd := by first | assumption | ktr_room) (hu := by first | assumption | ktr_units | ktr_room) ?_); intro no ov ok o h6 gs6 tk6 F6 N6 hov hop l6; k_lt l6))
  (k_with "call ref" => (k_here; (with_reducible show wpAny _ _ (call (Value.ref 165) [Value.int _ _, Value.int _ _, Value.int _ _]) _ _ _); k_dflt (refine' g_card (F := by k_asm) (N := by k_asm) (hz := by exact ⟨by omega, by omega, by omega, by omega, by omega, by omega⟩) (B := by k_asm) (X := by k_asm) (T := by k_asm) (hk := by first | exact rfl | assumption) (hd := by first | assumption | ktr_room) (hu := by first | assumption | ktr_units | ktr_room) ?_); intro _ _ _ _ _ _ _))
  (k_with "call builtin:str.join" => (k_here; k_dflt (refine' join_res (N := by k_asm) (hm := by k_mem) (hs := by assumption) (hz := by omega) ?_); intro _ _))
  (k_with "subscriptTail Name Slice str ref" => (k_here; (with_reducible show wpAny _ _ (subscriptTail _ _ (Value.str _ _) (Value.ref _)) _ _ _); k_dflt (refine' sliceTo_m1 (F := by k_asm) (N := by k_asm) (h1 := by omega) (hz := by omega) ?_ (hs := by with_unfolding_all rfl) (ht := by kmk_pure)); intro _ _ _ _ _))
  (k_with "call ref" => ((with_reducible show wpAny _ _ (call (Value.ref 182) _) _ _ _); (with_reducible refine stopHere ?_)))
  (k_with "execs cons" => ((with_reducible show wpAny _ _ (execs (Stmt.Assign [Expr.Name (Str.ofString "stretches") _] _ _ :: _) _) _ _ _); (with_reducible refine stopHere ?_)))
  (k_with "omega" => (first | k_extra "lt" | lia))
  (k_with "ibe5284" => (intro D' ws' h' F' N' l1 hI'; (try k_lt l1); revert D' ws' h' F' N' l1 hI'; intros))
  trivial
set_option maxHeartbeats 4000000 in
theorem law2 {w : World} {q : Program} {mean : ExcName → Option Value} {mg mb : Str → Option Value} {loose : List Str} {tail : List (Addr × Obj)}
  {dp un : Nat} {gd : Option (List Code)} {f : Addr} {cdv : Value} {outer : List Env} {A₀ : Around} {base h₀ : Heap} {L : Addr} {m : Str → Option Value} {s : Shared} {E : Value → Shared → Prop} {Q : Flow → Shared → Prop} {sc : Scope} {b : List Stmt} {o1 o2 o3 o4 o5 o6 o7 o8 : Obj} {nr : Addr} {rv : List Value} {rl : List Int} {rn : Nat} {size base9 : Int} {ts tb : Tok}
    (hsc : scAt 71 = some sc) (hb : (defBody 71).drop 4 = b) (B : Below A₀ base outer h₀) (X : (K0 w.params).In h₀) (T : Top q loose mean mg mb h₀) (hd : dp + 12 < recursionLimit) (hu : un + 64 * 12 < cLine) (F : Fr h₀ L s.heap m) (hm : m (Str.ofString "size") = some (.int size ts)) (N : News h₀ L s.heap ((nr, listOf rv.toArray rn) :: (L + 1 + 1 + 1 + 1 + 1 + 1 + 1 + 1, o8) :: (L + 1 + 1 + 1 + 1 + 1 + 1 + 1, o7) :: (L + 1 + 1 + 1 + 1 + 1 + 1, o6) :: (L + 1 + 1 + 1 + 1 + 1, o5) :: (L + 1 + 1 + 1 + 1, o4) :: (L + 1 + 1 + 1, o3) :: (L + 1 + 1, o2) :: (L + 1, o1) :: (167, tabObj #[]) :: tail)) (hlt : TailLt L tail) (hof : TailOff 167 tail)
    (d1 : o1.data = .cell (some (.ref nr))) (d3 : o3.data = .cell (some (.int base9 tb))) (d4 : o4.data = .cell none) (d5 : o5.data = .cell none) (hi : IntsAre rv rl) (hl : rl.length = 29) (hrb : ∀ r ∈ rl, 0 ≤ r ∧ r < 5184) (hs3 : 3 ≤ size) (hs6 : size ≤ 6) (hb0 : 208 ≤ base9) (hb1 : base9 ≤ 263)
    (h167 : @LT.lt Nat _ 167 L) (hnr : @LT.lt Nat _ (L + 1 + 1 + 1 + 1 + 1 + 1 + 1 + 1) nr)
    (hnum : ∀ o : List Int, o.Perm (upTo size.toNat) → numsOf (cards1 size base9 rl o).flatten.dropLast = (o.map fun x => base9 + x) ++ [0])
    (next : ∀ (m' : Str → Option Value) (p4 p5 : Obj) (no nn cc : Addr) (oc : Obj) (ov : List Value) (o : List Int) (iv : List (Int × Tok)) (ok nk : Nat) (cvs : Array Value) (tq : Tok) h' gs tk, Fr h₀ L h' m' →
      News h₀ L h' ((nn, listOf (ivals iv).toArray nk) :: (no, listOf ov.toArray ok) :: (nr, listOf rv.toArray rn) :: (L + 1 + 1 + 1 + 1 + 1 + 1 + 1 + 1, o8) :: (L + 1 + 1 + 1 + 1 + 1 + 1 + 1, o7) :: (L + 1 + 1 + 1 + 1 + 1 + 1, o6) :: (L + 1 + 1 + 1 + 1 + 1, p5) :: (L + 1 + 1 + 1 + 1, p4) :: (L + 1 + 1 + 1, o3) :: (L + 1 + 1, o2) :: (L + 1, o1) :: (167, tabObj #[rawInt 187, rawInt 18, .ref cc]) :: (cc, oc) :: tail) → IntsAre ov o → o.Perm (upTo size.toNat) → iv.map Prod.fst = o.map (fun x => base9 + x) →
      p4.data = .cell (some (.ref no)) → p5.data = .cell (some (.ref nn)) → m' (Str.ofString "size") = some (.int size ts) → oc.data = .fields cvs → cvs[1]? = some (.str (Str.ofString "_law_reader.<locals>.<lambda>") tq) → @LT.lt Nat _ nr no → @LT.lt Nat _ no nn → @LT.lt Nat _ nn cc →
      wpAny (model rw_sn0078_01.row.prog w) (ktrTop dp un gd (Str.ofString "law") sc L f cdv (cellsFrom (L + 1) sc.names []) outer) (execs (b.drop 4) (envOfC (Str.ofString "law") sc L f cdv)) Q E { s with heap := h', gens := gs, toks := tk }) :
    wpAny (model rw_sn0078_01.row.prog w) (ktrTop dp un gd (Str.ofString "law") sc L f cdv (cellsFrom (L + 1) sc.names []) outer) (execs b (envOfC (Str.ofString "law") sc L f cdv)) Q E s := by
  revert X; k_fill; intro X
  have h2 : scAt 71 = some _ := rfl
  have e2 := hsc.symm.trans h2
  clear hsc h2
  injection e2 with e2
  subst e2
  have h1 : (defBody 71).drop 4 = _ := rfl
  have e1 := hb.symm.trans h1
  clear hb h1
  subst e1
  dsimp only [List.drop] at next
  (show let A' := _; wpAny _ A' _ _ _ _); intro A'
  k_steps
  have hom := upTo_mem hop
  have hol : o.length = size.toNat := hop.length_eq.trans (upTo_len _)
  have hovl : ov.length = size.toNat := hov.length.trans hol
  have hcl : (cards1 size base9 rl o).length = size.toNat := by simp [cards1]
  have hcb := cards1_bd (size := size) (rl := rl) hb0 (fun x hx => (hom x hx).1)
  rename_i hR FR NR eR
  obtain ⟨p4, NR2, dp4⟩ : ∃ z : Obj, News _ L _ ((no, listOf ov.toArray ok) :: (nr, listOf rv.toArray rn) :: (L + 1 + 1 + 1 + 1 + 1 + 1 + 1 + 1, o8) :: (L + 1 + 1 + 1 + 1 + 1 + 1 + 1, o7) :: (L + 1 + 1 + 1 + 1 + 1 + 1, o6) :: (L + 1 + 1 + 1 + 1 + 1, o5) :: (L + 1 + 1 + 1 + 1, z) :: (L + 1 + 1 + 1, o3) :: (L + 1 + 1, o2) :: (L + 1, o1) :: (167, tabObj #[]) :: tail) ∧ z.data = .cell (some (.ref no)) := ⟨_, NR, by assumption⟩
  clear NR
  refine' compRangeC size.toNat (fun i ys => StrsAre ys (((cards1 size base9 rl o).take i).map fun l => ⟨l.toArray⟩)) ?hh (by k_asm) (by k_asm) hR ?hs ?hn ?hz .nil ?hlen ?turn ?done
  case hh => exact rfl
  case hs => exact small_one (by omega) (by omega) (by omega) (by omega)
  case hn => rw [rangeSize_nat]; omega
  case hz => rw [sizeLine_eq]; omega
  case hlen =>
    rintro i ys h
    have := strs_len h
    rw [List.length_map, List.length_take] at this; omega
  case turn =>
    rintro i ti ys D C I nD oC o' hh gs tkk mC hi9 hys hI hID hDC hC hmC F' N' Q' hQ E₁ E₂
    k_lt hI
    refine wpAny_tests_nil ?_
    rw [if_pos rfl]
    have hii : (0 : Int) + (i : Int) = (i : Int) := Int.zero_add _
    rw [hii] at hmC
    have hst : (cards1 size base9 rl o).take (i + 1) = (cards1 size base9 rl o).take i ++ [cardOf (base9 + o.getD ((i : Int)).toNat 0) (rl.getD (11 + (i : Int)).toNat 0) (rl.getD (17 + (i : Int)).toNat 0)] := range_take _ _ hi9 _
    have hk1 := hom (o.getD ((i : Int)).toNat 0) (getD_mem (by omega))
    have hk2 := getD_bd (rl := rl) (i := (11 + (i : Int)).toNat) (by omega) hrb
    have hk3 := getD_bd (rl := rl) (i := (17 + (i : Int)).toNat) (by omega) hrb
    k_steps
    refine' hQ.next _ _ _ _ (by assumption) ?n1 ?s1
    case n1 => assumption
    case s1 =>
      rw [hst]; exact strs_snocL hys _ _
  case done =>
    rintro D1 nD1 ys hh gs tkk hys hD1 F' N'
    rw [← hcl, List.take_length] at hys
    have hsum := sum_bd _ 11 fun l hl => (hcb l hl).2
    k_lt hD1
    (try k_unmd)
    k_steps
    rename_i tT kT hT FT NT
    have NT2 := news_tl NT
    clear NT
    refine' compListC (vs := ov) (fun i ys => IntsAre ys ((o.map fun x => base9 + x).take i)) ?hh2 FT NT2 (by k_mem) ?hz2 .nil ?hlen2 ?turn2 ?done2
    case hh2 => exact rfl
    case hz2 => rw [sizeLine_eq]; omega
    case hlen2 =>
      rintro i ys h
      have := h.length
      rw [List.length_take] at this; omega
    case turn2 =>
      rintro i v ys2 D2 C I nD2 oC o' hh gs tkk mC hv hys2 hI hID hDC hC hmC F' N' Q' hQ E₁ E₂
      k_lt hI
      obtain ⟨x, tx, rfl, hxi⟩ := hov.at i v hv
      have hst : (o.map fun x => base9 + x).take (i + 1) = (o.map fun x => base9 + x).take i ++ [base9 + x] := by
        rw [List.take_add_one, List.getElem?_map, hxi]; rfl
      refine wpAny_tests_nil ?_
      rw [if_pos rfl]
      k_steps
      refine' hQ.next _ _ _ _ (by assumption) (by assumption) ?s2
      case s2 =>
        rw [hst]; exact hys2.append (.cons _ _ .nil)
    case done2 =>
      rintro D2 nD2 ys2 hh gs tkk hys2 hD2 F' N'
      rw [List.take_of_length_le (by rw [List.length_map]; omega)] at hys2
      have hfl : (cards1 size base9 rl o).flatten.length ≤ 66 := by rw [List.length_flatten]; omega
      have hfl0 : 1 ≤ (cards1 size base9 rl o).flatten.length := by
        cases hq : cards1 size base9 rl o with
        | nil => rw [hq] at hcl; simp at hcl; omega
        | cons c r =>
          have := (hcb c (by rw [hq]; exact .head _)).1
          simp only [List.flatten_cons, List.length_append]; omega
      k_lt hD2
      (try k_unmd)
      k_steps
      unfold Stop
      rename_i h9 t9 k9 F9 N9
      obtain ⟨p5, N5, dp5⟩ : ∃ z : Obj, News _ L _ ((D2, listOf ys2.toArray nD2) :: (no, listOf ov.toArray ok) :: (nr, listOf rv.toArray rn) :: (L + 1 + 1 + 1 + 1 + 1 + 1 + 1 + 1, o8) :: (L + 1 + 1 + 1 + 1 + 1 + 1 + 1, o7) :: (L + 1 + 1 + 1 + 1 + 1 + 1, o6) :: (L + 1 + 1 + 1 + 1 + 1, z) :: (L + 1 + 1 + 1 + 1, p4) :: (L + 1 + 1 + 1, o3) :: (L + 1 + 1, o2) :: (L + 1, o1) :: (167, tabObj #[]) :: tail) ∧ z.data = .cell (some (.ref D2)) := ⟨_, N9, by assumption⟩
      clear N9
      have N167 : News h₀ L h9 ((167, tabObj #[]) :: (D2, listOf ys2.toArray nD2) :: (no, listOf ov.toArray ok) :: (nr, listOf rv.toArray rn) :: (L + 1 + 1 + 1 + 1 + 1 + 1 + 1 + 1, o8) :: (L + 1 + 1 + 1 + 1 + 1 + 1 + 1, o7) :: (L + 1 + 1 + 1 + 1 + 1 + 1, o6) :: (L + 1 + 1 + 1 + 1 + 1, p5) :: (L + 1 + 1 + 1 + 1, p4) :: (L + 1 + 1 + 1, o3) :: (L + 1 + 1, o2) :: (L + 1, o1) :: tail) := news_sub N5 (by first | ((repeat' (first | exact sub_self _ | with_reducible refine sub_cons ?_ | refine sub_cons ?_ | refine sub_skip ?_)); done) | (simp only [List.forall_mem_cons]; exact ⟨by k_mem, by k_mem, by k_mem, by k_mem, by k_mem, by k_mem, by k_mem, by k_mem, by k_mem, by k_mem, by k_mem, by k_mem, fun p hp => by repeat (first | assumption | refine List.mem_cons_of_mem _ ?_)⟩))
      have hof9 : TailOff 167 ((D2, listOf ys2.toArray nD2) :: (no, listOf ov.toArray ok) :: (nr, listOf rv.toArray rn) :: (L + 1 + 1 + 1 + 1 + 1 + 1 + 1 + 1, o8) :: (L + 1 + 1 + 1 + 1 + 1 + 1 + 1, o7) :: (L + 1 + 1 + 1 + 1 + 1 + 1, o6) :: (L + 1 + 1 + 1 + 1 + 1, p5) :: (L + 1 + 1 + 1 + 1, p4) :: (L + 1 + 1 + 1, o3) :: (L + 1 + 1, o2) :: (L + 1, o1) :: tail) := (by
        have q1 : 167 < nr := Nat.lt_trans (Nat.lt_of_lt_of_le h167 (Nat.le_add_right L 8)) hnr
        have q2 : 167 < no := Nat.lt_trans q1 (And.left (by assumption : nr < no ∧ _))
        have q3 : 167 < D2 := Nat.lt_trans q2 (And.left (by assumption : no < D2 ∧ _))
        exact ⟨fm_cons (Nat.ne_of_gt q3) (fm_cons (Nat.ne_of_gt q2) (fm_cons (Nat.ne_of_gt q1) (off8 h167 hof)))⟩)
      refine' g_numbers (s := ⟨h9, gs, s.drawn, k9, s.os⟩) F9 N167 ?xn hof9 B X T ?hkn ?hdn ?hun ?_
      case xn => rw [List.length_dropLast]; omega
      case hkn => exact rfl
      case hdn => omega
      case hun => omega
      intro Dn nDn iv cc oc cvs tq hn gsn tkn Fn Nn en1 en2 en3 en4 en5
      have hiv := ivals_ints iv
      replace en4 := tb_ltOf en4
      k_lt en4
      (try k_unmd)
      k_steps
      · obtain ⟨jv, rfl, hjv⟩ := ivals_of hys2
        unfold Stop
        refine next _ _ _ _ _ _ _ _ _ _ _ _ _ _ _ _ _ (by assumption) (news_sub (by assumption) (by first | ((repeat' (first | exact sub_self _ | with_reducible refine sub_cons ?_ | refine sub_cons ?_ | refine sub_skip ?_)); done) | (simp only [List.forall_mem_cons]; exact ⟨by k_mem, by k_mem, by k_mem, by k_mem, by k_mem, by k_mem, by k_mem, by k_mem, by k_mem, by k_mem, by k_mem, by k_mem, by k_mem, fun p hp => by repeat (first | assumption | refine List.mem_cons_of_mem _ ?_)⟩))) hov hop hjv dp4 dp5 ?_ en2 en3 (by omega) (by omega) (by omega)
        exact (if_neg (by decide)).trans hm
      · exact absurd (en1.trans (hnum o hop)) (by assumption)
theorem rg_ConL3_0 : True := by
  k_with_none
  (k_with "omega" => (first | lia))
  trivial
noncomputable def maxL : List Int → Int
  | [] => 0
  | a :: r => if r = [] then a else max a (maxL r)
noncomputable def minL : List Int → Int
  | [] => 0
  | a :: r => if r = [] then a else min a (minL r)
theorem maxL_spec : ∀ (l : List Int), l ≠ [] → maxL l ∈ l ∧ ∀ a ∈ l, a ≤ maxL l
  | [], h => absurd rfl h
  | a :: r, _ => by
    unfold maxL
    by_cases hr : r = []
    · subst hr; simp
    · rw [if_neg hr]
      obtain ⟨h1, h2⟩ := maxL_spec r hr
      refine ⟨?_, fun b hb => ?_⟩
      · by_cases q : a ≤ maxL r
        · rw [Int.max_eq_right q]; exact .tail _ h1
        · rw [Int.max_eq_left (by omega)]; exact .head _
      · rcases List.mem_cons.mp hb with rfl | hb
        · exact Int.le_max_left _ _
        · exact Int.le_trans (h2 b hb) (Int.le_max_right _ _)
theorem minL_spec : ∀ (l : List Int), l ≠ [] → minL l ∈ l ∧ ∀ a ∈ l, minL l ≤ a
  | [], h => absurd rfl h
  | a :: r, _ => by
    unfold minL
    by_cases hr : r = []
    · subst hr; simp
    · rw [if_neg hr]
      obtain ⟨h1, h2⟩ := minL_spec r hr
      refine ⟨?_, fun b hb => ?_⟩
      · by_cases q : a ≤ minL r
        · rw [Int.min_eq_left q]; exact .head _
        · rw [Int.min_eq_right (by omega)]; exact .tail _ h1
      · rcases List.mem_cons.mp hb with rfl | hb
        · exact Int.min_le_left _ _
        · exact Int.le_trans (Int.min_le_right _ _) (h2 b hb)
theorem maxL_eq {l : List Int} {M : Int} (h : M ∈ l) (hM : ∀ a, a ∈ l → a ≤ M) : maxL l = M := by
  obtain ⟨h1, h2⟩ := maxL_spec l (fun e => by subst e; cases h)
  exact Int.le_antisymm (hM _ h1) (h2 _ h)
theorem minL_eq {l : List Int} {M : Int} (h : M ∈ l) (hM : ∀ a, a ∈ l → M ≤ a) : minL l = M := by
  obtain ⟨h1, h2⟩ := minL_spec l (fun e => by subst e; cases h)
  exact Int.le_antisymm (h2 _ h) (hM _ h1)
noncomputable def strOk (o : List Int) (i : Nat) : Bool := decide (maxL (o.take (i + 1)) - minL (o.take (i + 1)) = (i : Int))
noncomputable def badAt (o : List Int) (n : Nat) : List Int := ((List.range n).filter fun k => !strOk o k).map fun k : Nat => (k : Int)
theorem badAt_yes {o : List Int} {i : Nat} (h : strOk o i = false) : badAt o (i + 1) = badAt o i ++ [(i : Int)] := by
  simp [badAt, List.range_succ, List.filter_append, h]
theorem badAt_no {o : List Int} {i : Nat} (h : strOk o i = true) : badAt o (i + 1) = badAt o i := by
  simp [badAt, List.range_succ, List.filter_append, h]
theorem strOk_of {o : List Int} {i : Nat} {M N : Int} {k : Int} (hk : k = (i : Int) + 1) (h1 : M ∈ o.take k.toNat) (h2 : ∀ a, a ∈ o.take k.toNat → a ≤ M) (h3 : N ∈ o.take k.toNat) (h4 : ∀ a, a ∈ o.take k.toNat → N ≤ a) : strOk o i = decide (M - N = (i : Int)) := by
  have e : k.toNat = i + 1 := by omega
  rw [e] at h1 h2 h3 h4
  unfold strOk
  rw [maxL_eq h1 h2, minL_eq h3 h4]
theorem rg_ConL3_1 : True := by
  k_with_none
  (k_with "my_cell_enter" => (refine' code_defCG (B := by k_asm) (F := by k_asm) (by k_asm) (N := by k_asm) (T := by k_asm) (hA := by exact rfl) (hf := by exact rfl) (hke := by assumption) (ho := by k_is) (hcd := by k_is) (hroom := by ktr_room) (hbind := by exact BindsTo.of_eq rfl) (hkind := by exact rfl) (hnd := by decide +kernel) ?_ (hco := by exact rfl) (hgen := by exact rfl) (hk := by exact rfl); k_whole; intro g' L' h' tk' cells' FG' F' N' Y' B' X' T' l1 GS'; (try k_lt l1); (try (first | have tl' := TailLt.mk l1 | have tl' := TailLt.mk l1.2 | have tl' := TailLt.mk l1.2.2 | have tl' := TailLt.mk l1.2.2.2 | have tl' := TailLt.mk l1.2.2.2.2 | have tl' := TailLt.mk l1.2.2.2.2.2)); k_cells Y'; (try simp only [List.cons_append, List.nil_append] at N'); (try dsimp only); (try k_lift B'); (try k_fold)))
  (k_with "eval Constant int" => (refine constI ?_))
  (k_with "eval Constant str" => (refine constS ?_))
  (k_with "eval Call" => ((show let Q9 := _; wpAny _ _ _ Q9 _ _); intro Q9; refine Call_ ?_))
  (k_with "eval Call Attribute" => ((show let Q9 := _; wpAny _ _ _ Q9 _ _); intro Q9; refine MethodCall_ ?_))
  (k_with "exec If" => ((show let Q9 := _; wpAny _ _ _ Q9 _ _); intro Q9; refine wpAny_If ?_))
  (k_with "exec Assign" => ((show let Q9 := _; wpAny _ _ _ Q9 _ _); intro Q9; refine wpAny_Assign_Name ?_))
  (k_with "exec AugAssign" => ((show let Q9 := _; wpAny _ _ _ Q9 _ _); intro Q9; refine wpAny_AugAssign_Name ?_))
  (k_with "eval BinOp" => ((show let Q9 := _; wpAny _ _ _ Q9 _ _); intro Q9; refine wpAny_BinOp ?_))
  (k_with "eval Compare" => ((show let Q9 := _; wpAny _ _ _ Q9 _ _); intro Q9; refine wpAny_Compare1 ?_))
  (k_with "isTrue Compare" => ((show let Q9 := _; wpAny _ _ _ Q9 _ _); intro Q9; refine wpAny_isTrue_Compare1 ?_))
  (k_with "eval Subscript" => ((show let Q9 := _; wpAny _ _ _ Q9 _ _); intro Q9; refine Subscript_ ?_))
  (k_with "my_k_all" => (refine' TailLt.ne (h := by assumption) (hc := by first | exact Nat.le_refl _ | omega)))
  (k_with "my_k_all" => (exact TailOff.ne (by assumption)))
  (k_with "my_k_all" => (exact allLt_ne (by assumption)))
  (k_with "a" => (with_reducible assumption))
  (k_with "lt" => ((first | (with_reducible show @LT.lt Nat _ _ _) | (with_reducible show @LE.le Nat _ _ _)); first | k_extra "a" | (with_reducible refine Nat.lt_of_succ_lt ?_; k_extra "a") | (with_reducible refine Nat.le_of_lt ?_; first | k_extra "a" | (refine Nat.lt_of_succ_lt ?_; k_extra "a")) | (with_reducible refine Nat.lt_trans ?_ (by with_reducible assumption); k_extra "lt")))
  (k_with "lt0" => (first | with_reducible exact Nat.lt_succ_self _ | with_reducible assumption | (with_reducible refine Nat.lt_succ_of_lt ?_; k_extra "lt0")))
  (k_with "my_k_ne" => (refine neN ?_; (try dsimp only); first | (refine Nat.ne_of_lt ?_; k_extra "lt0") | (refine Nat.ne_of_gt ?_; k_extra "lt0") | (refine Nat.ne_of_lt ?_; k_extra "lt") | (refine Nat.ne_of_gt ?_; k_extra "lt")))
  (k_with "eval Name" => (k_here; (fail_if_success (with_reducible show wpAny _ _ (eval _ (compEnvC _ _ _ _)) _ _ _)); k_dflt (refine' nameX_L2 (hx := by rfl) (hk := by rfl) (hd := by rfl) (F := by k_asm) (hv := by (first | exact rfl | assumption | ((repeat refine (if_neg (by decide)).trans ?_); first | assumption | exact if_pos rfl))) ?_; k_whole)))
  (k_with "exec Assign cons ListComp" => (k_here; k_dflt (refine wpAny_Assign_Name ?_ (hs := by with_unfolding_all rfl))))
  (k_with "exec Assign cons ListComp" => (k_here; k_dflt (refine' compJ_assign (hsw := by with_unfolding_all rfl) (hclos := by exact rfl) (hcell := by decide) (hkind := by exact rfl) (hnames := by decide) (hx := by exact rfl) (hy := by exact rfl) (hp := by exact rfl) ?_ (hs := by exact fun _ => rfl)); (try dsimp only)))
  (k_with "eval ListComp" => (k_here; k_dflt (refine' compJ_eval (hclos := by exact rfl) (hcell := by decide) (hkind := by exact rfl) (hnames := by decide) (hx := by exact rfl) ?_ (hs := by exact fun _ => rfl)); (try dsimp only)))
  (k_with "binaryOp Add ref ref" => (k_here; (with_reducible show wpAny _ _ (binaryOp _ (Value.ref _) (Value.ref _)) _ _ _); k_dflt (refine' kmk_add_ints (F := by k_asm) (N := by k_asm) (ha := by kmk_list) (hb := by kmk_list) (hi := by first | assumption | l_ints) (hj := by first | assumption | l_ints) ?_ (hz := by (rw [sizeLine_eq]; (try simp only [List.length_map, List.length_range, List.length_cons, List.length_nil, List.length_append]); omega))); walk_at "ibe5284"))
  (k_with "subscriptTail" => (k_here; (with_reducible show wpAny _ _ (subscriptTail _ _ (Value.ref _) (Value.int _ _)) _ _ _); k_dflt (refine' item_anyK (hl := by is_list) (hi := by assumption) (h0 := by omega) (h1 := by omega) (hfit := by omega) ?_ (hs := by with_unfolding_all rfl)); intro _))
  (k_with "call ref" => (k_here; (with_reducible show wpAny _ _ (call (Value.ref 158) [Value.ref _, Value.int _ _]) _ _ _); k_dflt (refine' g_order (F := by k_asm) (N := by k_asm) (hm := by k_mem) (hi := by assumption) (hl := by assumption) (h3 := by omega) (h6 := by omega) (hb := by assumption) (B := by k_asm) (X := by k_asm) (T := by k_asm) (hk := by first | exact rfl | assumption) (hd := by first | assumption | ktr_room) (hu := by first | assumption | ktr_units | ktr_room) ?_); intro no ov ok o h6 gs6 tk6 F6 N6 hov hop l6; k_lt l6))
  (k_with "call ref" => (k_here; (with_reducible show wpAny _ _ (call (Value.ref 165) [Value.int _ _, Value.int _ _, Value.int _ _]) _ _ _); k_dflt (refine' g_card (F := by k_asm) (N := by k_asm) (hz := by exact ⟨by omega, by omega, by omega, by omega, by omega, by omega⟩) (B := by k_asm) (X := by k_asm) (T := by k_asm) (hk := by first | exact rfl | assumption) (hd := by first | assumption | ktr_room) (hu := by first | assumption | ktr_units | ktr_room) ?_); intro _ _ _ _ _ _ _))
  (k_with "call builtin:str.join" => (k_here; k_dflt (refine' join_res (N := by k_asm) (hm := by k_mem) (hs := by assumption) (hz := by omega) ?_); intro _ _))
  (k_with "subscriptTail Name Slice str ref" => (k_here; (with_reducible show wpAny _ _ (subscriptTail _ _ (Value.str _ _) (Value.ref _)) _ _ _); k_dflt (refine' sliceTo_m1 (F := by k_asm) (N := by k_asm) (h1 := by omega) (hz := by omega) ?_ (hs := by with_unfolding_all rfl) (ht := by kmk_pure)); intro _ _ _ _ _))
  (k_with "call builtin:max" => (k_here; (with_reducible show wpAny _ _ (call (Value.builtin "max") [Value.ref _]) _ _ _); k_dflt (refine kso_max (F := by k_asm) (N := by k_asm) (hl := by is_list) (hi := by assumption) (hne := by (rw [List.length_take]; omega)) (hh := by exact rfl) ?_); intro h9 M8 t9 k9 F9 N9 a8 b8; (try k_dflt (have hC9 := hCo _ (N9 (C, oC) (by k_mem)).1))))
  (k_with "call builtin:min" => (k_here; (with_reducible show wpAny _ _ (call (Value.builtin "min") [Value.ref _]) _ _ _); k_dflt (refine kso_min (F := by k_asm) (N := by k_asm) (hl := by is_list) (hi := by assumption) (hne := by (rw [List.length_take]; omega)) (hh := by exact rfl) ?_); intro h9 M9 t9 k9 F9 N9 a9 b9; (try k_dflt (have hC9 := hCo _ (N9 (C, oC) (by k_mem)).1))))
  (k_with "execs cons" => ((with_reducible show wpAny _ _ (execs (Stmt.Assign [Expr.Name (Str.ofString "cuts") _] _ _ :: _) _) _ _ _); (with_reducible refine stopHere ?_)))
  (k_with "nums" => (exact kmk_upto (by with_reducible assumption) (by first | with_reducible assumption | omega)))
  (k_with "omega" => (first | k_extra "lt" | lia))
  (k_with "ibe5284" => (intro D' ws' h' F' N' l1 hI'; (try k_lt l1); revert D' ws' h' F' N' l1 hI'; intros))
  trivial
set_option maxHeartbeats 4000000 in
theorem law3 {w : World} {q : Program} {mean : ExcName → Option Value} {mg mb : Str → Option Value} {loose : List Str} {tail : List (Addr × Obj)}
  {dp un : Nat} {gd : Option (List Code)} {f : Addr} {cdv : Value} {outer : List Env} {A₀ : Around} {base h₀ : Heap} {L : Addr} {m : Str → Option Value} {s : Shared} {E : Value → Shared → Prop} {Q : Flow → Shared → Prop} {sc : Scope} {b : List Stmt} {o1 o2 o3 o4 o5 o6 o7 o8 oc : Obj} {nr no nn cc : Addr} {rv ov : List Value} {rl o : List Int} {iv : List (Int × Tok)} {rn ok nk : Nat} {size base9 : Int} {ts tb : Tok}
    (hsc : scAt 71 = some sc) (hb : (defBody 71).drop 8 = b) (B : Below A₀ base outer h₀) (X : (K0 w.params).In h₀) (T : Top q loose mean mg mb h₀) (hd : dp + 12 < recursionLimit) (hu : un + 64 * 12 < cLine) (F : Fr h₀ L s.heap m) (hm : m (Str.ofString "size") = some (.int size ts)) (hlt : TailLt L tail)
    (hs3 : 3 ≤ size) (hs6 : size ≤ 6) (hb0 : 208 ≤ base9) (hb1 : base9 ≤ 263) (h167 : @LT.lt Nat _ 167 L) (hnr : @LT.lt Nat _ (L + 1 + 1 + 1 + 1 + 1 + 1 + 1 + 1) nr) (hno : @LT.lt Nat _ nr no) (hnn : @LT.lt Nat _ no nn) (hcc : @LT.lt Nat _ nn cc)
    (d1 : o1.data = .cell (some (.ref nr))) (d3 : o3.data = .cell (some (.int base9 tb))) (d4 : o4.data = .cell (some (.ref no))) (d5 : o5.data = .cell (some (.ref nn))) (hi : IntsAre rv rl) (hl : rl.length = 29) (hrb : ∀ r ∈ rl, 0 ≤ r ∧ r < 5184) (hov : IntsAre ov o) (hop : o.Perm (upTo size.toNat)) (hiv : iv.map Prod.fst = o.map (fun x => base9 + x)) (d6 : o6.data = .cell none)
    (N : News h₀ L s.heap ((nn, listOf (ivals iv).toArray nk) :: (no, listOf ov.toArray ok) :: (nr, listOf rv.toArray rn) :: (L + 1 + 1 + 1 + 1 + 1 + 1 + 1 + 1, o8) :: (L + 1 + 1 + 1 + 1 + 1 + 1 + 1, o7) :: (L + 1 + 1 + 1 + 1 + 1 + 1, o6) :: (L + 1 + 1 + 1 + 1 + 1, o5) :: (L + 1 + 1 + 1 + 1, o4) :: (L + 1 + 1 + 1, o3) :: (L + 1 + 1, o2) :: (L + 1, o1) :: (167, tabObj #[rawInt 187, rawInt 18, .ref cc]) :: (cc, oc) :: tail))
    (next : ∀ (m' : Str → Option Value) (p6 : Obj) (nc : Addr) (cv : List Value) (ck : Nat) h' gs tk, Fr h₀ L h' m' → News h₀ L h' ((nc, listOf cv.toArray ck) :: (nn, listOf (ivals iv).toArray nk) :: (no, listOf ov.toArray ok) :: (nr, listOf rv.toArray rn) :: (L + 1 + 1 + 1 + 1 + 1 + 1 + 1 + 1, o8) :: (L + 1 + 1 + 1 + 1 + 1 + 1 + 1, o7) :: (L + 1 + 1 + 1 + 1 + 1 + 1, p6) :: (L + 1 + 1 + 1 + 1 + 1, o5) :: (L + 1 + 1 + 1 + 1, o4) :: (L + 1 + 1 + 1, o3) :: (L + 1 + 1, o2) :: (L + 1, o1) :: (167, tabObj #[rawInt 187, rawInt 18, .ref cc]) :: (cc, oc) :: tail) → StrsAre cv ((cards2 size base9 rl).map fun l => ⟨l.toArray⟩) → p6.data = .cell (some (.ref nc)) →
      m' (Str.ofString "stretches") = some (.bool (decide (badAt o size.toNat = []))) → m' (Str.ofString "size") = some (.int size ts) → @LT.lt Nat _ cc nc →
      wpAny (model rw_sn0078_01.row.prog w) (ktrTop dp un gd (Str.ofString "law") sc L f cdv (cellsFrom (L + 1) sc.names []) outer) (execs (b.drop 2) (envOfC (Str.ofString "law") sc L f cdv)) Q E { s with heap := h', gens := gs, toks := tk }) :
    wpAny (model rw_sn0078_01.row.prog w) (ktrTop dp un gd (Str.ofString "law") sc L f cdv (cellsFrom (L + 1) sc.names []) outer) (execs b (envOfC (Str.ofString "law") sc L f cdv)) Q E s := by
  revert X; k_fill; intro X
  have h2 : scAt 71 = some _ := rfl
  have e2 := hsc.symm.trans h2
  clear hsc h2
  injection e2 with e2
  subst e2
  have h1 : (defBody 71).drop 8 = _ := rfl
  have e1 := hb.symm.trans h1
  clear hb h1
  subst e1
  dsimp only [List.drop] at next
  have hom := upTo_mem hop
  have hol : o.length = size.toNat := hop.length_eq.trans (upTo_len _)
  have hovl : ov.length = size.toNat := hov.length.trans hol
  (show let A' := _; wpAny _ A' _ _ _ _); intro A'
  k_steps
  rename_i hR FR NR eR
  refine' compRangeC size.toNat (fun i ys => IntsAre ys (badAt o i)) ?hh (by k_asm) (by k_asm) hR ?hs ?hn ?hz .nil ?hlen ?turn ?done
  case hh => exact rfl
  case hs => exact small_one (by omega) (by omega) (by omega) (by omega)
  case hn => rw [rangeSize_nat]; omega
  case hz => rw [sizeLine_eq]; omega
  case hlen =>
    rintro i ys h
    rw [h.length]
    unfold badAt
    rw [List.length_map]
    exact Nat.le_trans (List.length_filter_le _ _) (by simp)
  case turn =>
    rintro i ti ys D C I nD oC o' hh gs tkk mC hi9 hys hI hID hDC hC hmC F' N' Q' hQ E₁ E₂
    have hCo : ∀ h9 : Heap, h9.get? C = some oC → h9.Ns C mC := fun h9 e9 => ns_same hC (N' (C, oC) (by k_mem)).1 e9
    k_lt hI
    have hii : (0 : Int) + (i : Int) = (i : Int) := Int.zero_add _
    rw [hii] at hmC
    refine wpAny_tests_one ?_
    k_steps
    · have hq : strOk o i = false := (strOk_of (k := (i : Int) + 1) rfl a8 b8 a9 b9).trans (decide_eq_false (by assumption))
      exact hQ.next _ _ _ _ (by assumption) (news_sub N9 (by first | ((repeat' (first | exact sub_self _ | with_reducible refine sub_cons ?_ | refine sub_cons ?_ | refine sub_skip ?_)); done) | (simp only [List.cons_append, List.nil_append, List.forall_mem_cons]; exact ⟨by k_mem, by k_mem, by k_mem, by k_mem, by k_mem, by k_mem, by k_mem, by k_mem, by k_mem, by k_mem, by k_mem, by k_mem, by k_mem, by k_mem, by k_mem, by k_mem, fun p hp => by repeat (first | assumption | refine List.mem_cons_of_mem _ ?_)⟩))) ((badAt_yes hq).symm ▸ hys.append (.cons _ _ .nil))
    · have hq : strOk o i = true := (strOk_of (k := (i : Int) + 1) rfl a8 b8 a9 b9).trans (decide_eq_true (by assumption))
      exact hQ.next _ _ _ _ (by assumption) (news_sub N9 (by first | ((repeat' (first | exact sub_self _ | with_reducible refine sub_cons ?_ | refine sub_cons ?_ | refine sub_skip ?_)); done) | (simp only [List.cons_append, List.nil_append, List.forall_mem_cons]; exact ⟨by k_mem, by k_mem, by k_mem, by k_mem, by k_mem, by k_mem, by k_mem, by k_mem, by k_mem, by k_mem, by k_mem, by k_mem, by k_mem, by k_mem, by k_mem, by k_mem, fun p hp => by repeat (first | assumption | refine List.mem_cons_of_mem _ ?_)⟩))) ((badAt_no hq).symm ▸ hys)
  case done =>
    rintro D1 nD1 ys hh gs tkk hys hD1 F' N'
    k_lt hD1
    (try k_unmd)
    k_steps
    rename_i hR FR NR eR
    have hcl : (cards2 size base9 rl).length = size.toNat := by simp [cards2]
    have NR2 : News h₀ L _ ((nn, listOf (ivals iv).toArray nk) :: (no, listOf ov.toArray ok) :: (nr, listOf rv.toArray rn) :: (L + 1 + 1 + 1 + 1 + 1 + 1 + 1 + 1, o8) :: (L + 1 + 1 + 1 + 1 + 1 + 1 + 1, o7) :: (L + 1 + 1 + 1 + 1 + 1 + 1, o6) :: (L + 1 + 1 + 1 + 1 + 1, o5) :: (L + 1 + 1 + 1 + 1, o4) :: (L + 1 + 1 + 1, o3) :: (L + 1 + 1, o2) :: (L + 1, o1) :: (167, tabObj #[rawInt 187, rawInt 18, .ref cc]) :: (cc, oc) :: tail) := news_tl (news_tl NR)
    clear NR
    refine' compRangeC size.toNat (fun i ys => StrsAre ys (((cards2 size base9 rl).take i).map fun l => ⟨l.toArray⟩)) ?hh2 (by k_asm) NR2 hR ?hs2 ?hn2 ?hz2 .nil ?hlen2 ?turn2 ?done2
    case hh2 => exact rfl
    case hs2 => exact small_one (by omega) (by omega) (by omega) (by omega)
    case hn2 => rw [rangeSize_nat]; omega
    case hz2 => rw [sizeLine_eq]; omega
    case hlen2 =>
      rintro i ys h
      have := strs_len h
      rw [List.length_map, List.length_take] at this; omega
    case turn2 =>
      rintro i ti ys D C I nD oC o' hh gs tkk mC hi9 hys hI hID hDC hC hmC F' N' Q' hQ E₁ E₂
      k_lt hI
      refine wpAny_tests_nil ?_
      rw [if_pos rfl]
      have hii : (0 : Int) + (i : Int) = (i : Int) := Int.zero_add _
      rw [hii] at hmC
      have hst : (cards2 size base9 rl).take (i + 1) = (cards2 size base9 rl).take i ++ [cardOf (base9 + (i : Int)) (rl.getD (23 + (i : Int)).toNat 0) (rl.getD (22 - (i : Int)).toNat 0)] := range_take _ _ hi9 _
      have hk2 := getD_bd (rl := rl) (i := (23 + (i : Int)).toNat) (by omega) hrb
      have hk3 := getD_bd (rl := rl) (i := (22 - (i : Int)).toNat) (by omega) hrb
      k_steps
      refine' hQ.next _ _ _ _ (by assumption) ?n1 ?s1
      case n1 => assumption
      case s1 =>
        rw [hst]; exact strs_snocL hys _ _
    case done2 =>
      rintro D2 nD2 ys2 hh gs tkk hys2 hD2 F' N'
      rw [← hcl, List.take_length] at hys2
      k_lt hD2
      (try k_unmd)
      k_steps
      unfold Stop
      refine next _ _ _ _ _ _ _ _ (by assumption) (by assumption) hys2 (by assumption) ?_ ?_ ?_
      · exact if_pos rfl
      · exact (if_neg (by decide)).trans hm
      · omega
theorem rg_ConL4_0 : True := by
  k_with_none
  (k_with "omega" => (first | lia))
  trivial
noncomputable def dealtL (cards : List (List Nat)) (i : Nat) : List (List Nat) := (List.range i).map fun j : Nat => cards.getD ((i : Int) - 1 - (j : Int)).toNat []
noncomputable def fallsAt (cards : List (List Nat)) (ns : List Int) (i : Nat) : Bool := fallsOf [] (dealtL cards i).flatten (cards.drop i).flatten ns
noncomputable def cutsOf (cards : List (List Nat)) (ns : List Int) (n : Nat) : List Int := ((List.range n).filter fun i => fallsAt cards ns i).map fun i : Nat => (i : Int)
theorem cutsOf_yes {cards : List (List Nat)} {ns : List Int} {i : Nat} (h : fallsAt cards ns i = true) : cutsOf cards ns (i + 1) = cutsOf cards ns i ++ [(i : Int)] := by
  simp [cutsOf, List.range_succ, List.filter_append, h]
theorem cutsOf_no {cards : List (List Nat)} {ns : List Int} {i : Nat} (h : fallsAt cards ns i = false) : cutsOf cards ns (i + 1) = cutsOf cards ns i := by
  simp [cutsOf, List.range_succ, List.filter_append, h]
theorem cutsOf_len (cards : List (List Nat)) (ns : List Int) (n : Nat) : (cutsOf cards ns n).length ≤ n := by
  unfold cutsOf
  rw [List.length_map]
  exact Nat.le_trans (List.length_filter_le _ _) (by simp)
theorem dealt_bd {cards : List (List Nat)} {b : Nat} (h : ∀ l ∈ cards, l.length ≤ b) (i : Nat) : ((dealtL cards i).map List.length).sum ≤ b * i := by
  have := sum_bd (dealtL cards i) b fun l hl => by
    obtain ⟨j, _, rfl⟩ := List.mem_map.mp hl
    by_cases hq : ((i : Int) - 1 - (j : Int)).toNat < cards.length
    · exact h _ (getD_mem hq)
    · rw [List.getD_eq_getElem?_getD, List.getElem?_eq_none (by omega)]; simp
  rwa [dealtL, List.length_map, List.length_range] at this
theorem strs_drop {vs : List Value} {ls : List (List Nat)} (S : StrsAre vs (ls.map fun l => (⟨l.toArray⟩ : Str))) (k : Nat) : StrsAre (vs.drop k) ((ls.drop k).map fun l => ⟨l.toArray⟩) := by
  rw [List.map_drop]
  generalize ls.map (fun l => (⟨l.toArray⟩ : Str)) = ys at S
  induction S generalizing k with
  | nil => simp; exact .nil
  | cons s t h ih => cases k with
    | zero => exact .cons s t h
    | succ k => exact ih k
section
variable {prog : Program} {w : World} {A : Around} {E : Value → Shared → Prop} {s : Shared} {h₀ : Heap} {L D : Addr} {m : Str → Option Value} {news : List (Addr × Obj)} {vs : List Value} {n : Nat} {t u : Tok}
theorem pick_from {x : Int} (h : 0 ≤ x) : (slicePick vs.toArray (some x) none none).toList = vs.drop x.toNat := by
  have e : sliceBounds (some x) none none vs.toArray.size = (((min x.toNat vs.toArray.size : Nat) : Int), ((vs.toArray.size : Nat) : Int), 1) := by
    simp only [sliceBounds, Option.getD_none, show (1 : Int) > 0 by decide, if_true, if_neg (show ¬ (x < 0) by omega)]
    congr 1
    exact max_min h _
  rw [kmk_pick_nat _ e]
  show (vs.drop (min x.toNat vs.toArray.size)).take (vs.toArray.size - min x.toNat vs.toArray.size) = _
  rw [List.size_toArray, kmk_drop_min, List.take_of_length_le (by rw [List.length_drop]; exact Nat.sub_le_sub_left (Nat.min_le_left _ _) _)]
theorem slice_strsF {value slice : PySem.Expr} {ls : List (List Nat)} {y : Int} {Q : Value → Shared → Prop} (F : Fr h₀ L s.heap m) (N : News h₀ L s.heap news) (hm : (D, listOf vs.toArray n) ∈ news) (S : StrsAre vs (ls.map fun l => (⟨l.toArray⟩ : Str))) (h0 : 0 ≤ y) (hz : ls.length ≤ 1000)
    (h : ∀ D' ws h', Fr h₀ L h' m → News h₀ L h' ((D', listOf (List.toArray ws) 0) :: news) → (∀ p ∈ news, p.1 < D') → StrsAre ws ((ls.drop y.toNat).map fun l => ⟨l.toArray⟩) → Q (.ref D') { s with heap := h' })
    (hs : subscripted slice false (.ref D) (.ref s.heap.objs.size) = operate [.ref s.heap.objs.size, .ref D] (getItem (.ref D) (.ref s.heap.objs.size))) (ht : ∀ r, letTemporaryGo value (.ref D) r = pure ()) :
    wpAny (model prog w) A (subscriptTail value slice (.ref D) (.ref s.heap.objs.size)) Q E { s with heap := s.heap.push { cls := .type "slice", data := .fields #[.int y u, .none, .none] } } := by
  have hL : s.heap.IsList D vs.toArray := ⟨_, (N _ hm).1, rfl, n, rfl⟩
  have hl := strs_len S
  rw [List.length_map] at hl
  exact kmk_slice_lit F N hL (.int _ _) .none (pick_from h0) (fun D' h' F' N' l1 => h D' _ h' F' N' l1 (strs_drop S _)) hs ht (by rw [sizeLine_eq, List.size_toArray]; omega)
end
section
variable {w : World} {q : Program} {mean : ExcName → Option Value} {mg mb : Str → Option Value} {loose : List Str} {tail news : List (Addr × Obj)}
  {dp un : Nat} {gd : Option (List Code)} {cn : Str} {cs : Scope} {a : Addr} {ccd : Value} {cl : List (Str × Addr)} {outer : List Env} {A₀ : Around} {base h₀ : Heap} {L : Addr} {m : Str → Option Value} {s : Shared} {E : Value → Shared → Prop} {Q : Value → Shared → Prop}
theorem g_falls {lx ly : List Nat} {tx ty : Tok} {cc nl : Addr} {oc : Obj} {vs : Array Value} {tq : Tok} {iv : List (Int × Tok)} {nn : Nat} (F : Fr h₀ L s.heap m) (N : News h₀ L s.heap ((167, tabObj #[rawInt 187, rawInt 18, .ref cc]) :: (cc, oc) :: (nl, listOf (ivals iv).toArray nn) :: tail))
    (hx : lx.length ≤ 900) (hy : ly.length ≤ 900) (hi : iv.length ≤ 900) (ho : TailOff 167 ((nl, listOf (ivals iv).toArray nn) :: tail)) (hc : neN' cc 167) (hoc : oc.data = .fields vs) (hv : vs[1]? = some (.str (Str.ofString "_law_reader.<locals>.<lambda>") tq))
    (B : Below A₀ base outer h₀) (X : (K0 w.params).In h₀) (T : Top q loose mean mg mb h₀) (hk : cs.kind = .function) (hd : dp + 9 < recursionLimit) (hu : un + 64 * 9 < cLine)
    (h : ∀ h' gs' tk', Fr h₀ L h' m → News h₀ L h' ((167, tabObj #[rawInt 187, rawInt 18, .ref cc]) :: (cc, oc) :: (nl, listOf (ivals iv).toArray nn) :: tail) → Q (.bool (fallsOf [] lx ly (iv.map Prod.fst))) { s with heap := h', gens := gs', toks := tk' }) :
    wpAny (model rw_sn0078_01.row.prog w) (ktrTop dp un gd cn cs L a ccd cl outer) (call (.ref 189) [.str ⟨lx.toArray⟩ tx, .str ⟨ly.toArray⟩ ty, .ref nl]) Q E s := by
  refine wpAny_call (c_falls w q mean mg mb loose tail ⟨lx.toArray⟩ ⟨ly.toArray⟩ tx ty cc nl oc vs tq iv nn dp un gd cn cs a ccd cl outer A₀ base h₀ L m s Q E B F X N T hk ⟨by simpa [Str.length] using hx, by simpa [Str.length] using hy, hi, ho, hc, hoc, hv⟩ hd hu ?_)
  rintro v news' h' gs' tk' ⟨rfl, rfl⟩ F' N' x'
  exact h h' gs' tk' F' N'
end
theorem rg_ConL4_1 : True := by
  k_with_none
  (k_with "my_cell_enter" => (refine' code_defCG (B := by k_asm) (F := by k_asm) (by k_asm) (N := by k_asm) (T := by k_asm) (hA := by exact rfl) (hf := by exact rfl) (hke := by assumption) (ho := by k_is) (hcd := by k_is) (hroom := by ktr_room) (hbind := by exact BindsTo.of_eq rfl) (hkind := by exact rfl) (hnd := by decide +kernel) ?_ (hco := by exact rfl) (hgen := by exact rfl) (hk := by exact rfl); k_whole; intro g' L' h' tk' cells' FG' F' N' Y' B' X' T' l1 GS'; (try k_lt l1); (try (first | have tl' := TailLt.mk l1 | have tl' := TailLt.mk l1.2 | have tl' := TailLt.mk l1.2.2 | have tl' := TailLt.mk l1.2.2.2 | have tl' := TailLt.mk l1.2.2.2.2 | have tl' := TailLt.mk l1.2.2.2.2.2)); k_cells Y'; (try simp only [List.cons_append, List.nil_append] at N'); (try dsimp only); (try k_lift B'); (try k_fold)))
  (k_with "eval Constant int" => (refine constI ?_))
  (k_with "eval Constant str" => (refine constS ?_))
  (k_with "eval Call" => ((show let Q9 := _; wpAny _ _ _ Q9 _ _); intro Q9; refine Call_ ?_))
  (k_with "eval Call Attribute" => ((show let Q9 := _; wpAny _ _ _ Q9 _ _); intro Q9; refine MethodCall_ ?_))
  (k_with "exec If" => ((show let Q9 := _; wpAny _ _ _ Q9 _ _); intro Q9; refine wpAny_If ?_))
  (k_with "exec Assign" => ((show let Q9 := _; wpAny _ _ _ Q9 _ _); intro Q9; refine wpAny_Assign_Name ?_))
  (k_with "exec AugAssign" => ((show let Q9 := _; wpAny _ _ _ Q9 _ _); intro Q9; refine wpAny_AugAssign_Name ?_))
  (k_with "eval BinOp" => ((show let Q9 := _; wpAny _ _ _ Q9 _ _); intro Q9; refine wpAny_BinOp ?_))
  (k_with "eval Compare" => ((show let Q9 := _; wpAny _ _ _ Q9 _ _); intro Q9; refine wpAny_Compare1 ?_))
  (k_with "isTrue Compare" => ((show let Q9 := _; wpAny _ _ _ Q9 _ _); intro Q9; refine wpAny_isTrue_Compare1 ?_))
  (k_with "eval Subscript" => ((show let Q9 := _; wpAny _ _ _ Q9 _ _); intro Q9; refine Subscript_ ?_))
  (k_with "my_k_all" => (refine' TailLt.ne (h := by assumption) (hc := by first | exact Nat.le_refl _ | omega)))
  (k_with "my_k_all" => (exact TailOff.ne (by assumption)))
  (k_with "my_k_all" => (exact allLt_ne (by assumption)))
  (k_with "a" => (with_reducible assumption))
  (k_with "cn" => (first | k_extra "a" | (apply And.right; first | k_extra "a" | (apply And.right; first | k_extra "a" | (apply And.right; first | k_extra "a" | (apply And.right; first | k_extra "a" | (apply And.right; first | k_extra "a" | (apply And.right; first | k_extra "a" | (apply And.right; first | k_extra "a" | (apply And.right; first | k_extra "a" | (apply And.right; first | k_extra "a" | (apply And.right; first | k_extra "a" | (apply And.right; first | k_extra "a" | (apply And.right; first | k_extra "a" | (apply And.right; k_extra "a")))))))))))))))
  (k_with "cj" => (first | k_extra "cn" | (apply And.left; k_extra "cn")))
  (k_with "lt" => ((first | (with_reducible show @LT.lt Nat _ _ _) | (with_reducible show @LE.le Nat _ _ _)); first | k_extra "cj" | (with_reducible refine Nat.lt_of_succ_lt ?_; k_extra "cj") | (with_reducible refine Nat.le_of_lt ?_; first | k_extra "cj" | (refine Nat.lt_of_succ_lt ?_; k_extra "cj")) | (with_reducible refine Nat.lt_trans ?_ (by with_reducible assumption); k_extra "lt")))
  (k_with "lt0" => (first | with_reducible exact Nat.lt_succ_self _ | with_reducible assumption | (with_reducible refine Nat.lt_succ_of_lt ?_; k_extra "lt0")))
  (k_with "my_k_ne" => (refine neN ?_; (try dsimp only); first | (refine Nat.ne_of_lt ?_; k_extra "lt0") | (refine Nat.ne_of_gt ?_; k_extra "lt0") | (refine Nat.ne_of_lt ?_; k_extra "lt") | (refine Nat.ne_of_gt ?_; k_extra "lt")))
  (k_with "eval Name" => (k_here; (fail_if_success (with_reducible show wpAny _ _ (eval _ (compEnvC _ _ _ _)) _ _ _)); k_dflt (refine' nameX_L2 (hx := by rfl) (hk := by rfl) (hd := by rfl) (F := by k_asm) (hv := by (first | exact rfl | assumption | ((repeat refine (if_neg (by decide)).trans ?_); first | assumption | exact if_pos rfl))) ?_; k_whole)))
  (k_with "exec Assign cons ListComp" => (k_here; k_dflt (refine wpAny_Assign_Name ?_ (hs := by with_unfolding_all rfl))))
  (k_with "exec Assign cons ListComp" => (k_here; k_dflt (refine' compJ_assign (hsw := by with_unfolding_all rfl) (hclos := by exact rfl) (hcell := by decide) (hkind := by exact rfl) (hnames := by decide) (hx := by exact rfl) (hy := by exact rfl) (hp := by exact rfl) ?_ (hs := by exact fun _ => rfl)); (try dsimp only)))
  (k_with "eval ListComp" => (k_here; k_dflt (refine' compJ_eval (hclos := by exact rfl) (hcell := by decide) (hkind := by exact rfl) (hnames := by decide) (hx := by exact rfl) ?_ (hs := by exact fun _ => rfl)); (try dsimp only)))
  (k_with "binaryOp Add ref ref" => (k_here; (with_reducible show wpAny _ _ (binaryOp _ (Value.ref _) (Value.ref _)) _ _ _); k_dflt (refine' kmk_add_ints (F := by k_asm) (N := by k_asm) (ha := by kmk_list) (hb := by kmk_list) (hi := by first | assumption | l_ints) (hj := by first | assumption | l_ints) ?_ (hz := by (rw [sizeLine_eq]; (try simp only [List.length_map, List.length_range, List.length_cons, List.length_nil, List.length_append]); omega))); walk_at "ibe5284"))
  (k_with "subscriptTail" => (k_here; (with_reducible show wpAny _ _ (subscriptTail _ _ (Value.ref _) (Value.int _ _)) _ _ _); k_dflt (refine' item_anyK (hl := by is_list) (hi := by assumption) (h0 := by omega) (h1 := by omega) (hfit := by omega) ?_ (hs := by with_unfolding_all rfl)); intro _))
  (k_with "call ref" => (k_here; (with_reducible show wpAny _ _ (call (Value.ref 158) [Value.ref _, Value.int _ _]) _ _ _); k_dflt (refine' g_order (F := by k_asm) (N := by k_asm) (hm := by k_mem) (hi := by assumption) (hl := by assumption) (h3 := by omega) (h6 := by omega) (hb := by assumption) (B := by k_asm) (X := by k_asm) (T := by k_asm) (hk := by first | exact rfl | assumption) (hd := by first | assumption | ktr_room) (hu := by first | assumption | ktr_units | ktr_room) ?_); intro no ov ok o h6 gs6 tk6 F6 N6 hov hop l6; k_lt l6))
  (k_with "call ref" => (k_here; (with_reducible show wpAny _ _ (call (Value.ref 165) [Value.int _ _, Value.int _ _, Value.int _ _]) _ _ _); k_dflt (refine' g_card (F := by k_asm) (N := by k_asm) (hz := by exact ⟨by omega, by omega, by omega, by omega, by omega, by omega⟩) (B := by k_asm) (X := by k_asm) (T := by k_asm) (hk := by first | exact rfl | assumption) (hd := by first | assumption | ktr_room) (hu := by first | assumption | ktr_units | ktr_room) ?_); intro _ _ _ _ _ _ _))
  (k_with "call builtin:str.join" => (k_here; k_dflt (refine' join_res (N := by k_asm) (hm := by k_mem) (hs := by assumption) (hz := by omega) ?_); intro _ _))
  (k_with "subscriptTail Name Slice str ref" => (k_here; (with_reducible show wpAny _ _ (subscriptTail _ _ (Value.str _ _) (Value.ref _)) _ _ _); k_dflt (refine' sliceTo_m1 (F := by k_asm) (N := by k_asm) (h1 := by omega) (hz := by omega) ?_ (hs := by with_unfolding_all rfl) (ht := by kmk_pure)); intro _ _ _ _ _))
  (k_with "subscriptTail" => (k_here; (with_reducible show wpAny _ _ (subscriptTail _ _ (Value.ref _) (Value.int _ _)) _ _ _); k_dflt (refine' txt_item (N := by k_asm) (hm := by k_mem) (S := by assumption) (h0 := by omega) (h1 := by omega) (hz := by omega) ?_ (hs := by with_unfolding_all rfl)); intro _))
  (k_with "subscriptTail Name Slice ref ref" => (k_here; (with_reducible show wpAny _ _ (subscriptTail _ (PySem.Expr.Slice (some _) none none _) (Value.ref _) (Value.ref _)) _ _ _); k_dflt (refine slice_strsF (F := by k_asm) (N := by k_asm) (hm := by k_mem) (S := by assumption) (h0 := by omega) (hz := by omega) ?_ (hs := by with_unfolding_all rfl) (ht := by kmk_pure)); walk_at "ib74889"))
  (k_with "exec For Name Name cons nil" => (k_here; k_dflt (refine' wpAny_For ?_ (hs := by exact fun _ => rfl))))
  (k_with "exec For Name Call cons nil" => (k_here; k_dflt (refine' wpAny_For ?_ (hs := by exact fun _ => rfl))))
  (k_with "call builtin:list.append" => (k_here; (with_reducible show wpAny _ _ (call (Value.builtin _) [Value.ref _, _]) _ _ _); k_dflt (refine' append_K (F := by k_asm) (N := by k_asm) (U := by k_upd) ?_ (hsz := by (rw [sizeLine_eq]; simp only [List.size_toArray]; omega)); k_whole); walk_at "i81887c"))
  (k_with "call ref" => ((with_reducible show wpAny _ _ (call (Value.ref 189) _) _ _ _); (with_reducible refine stopHere ?_)))
  (k_with "execs cons" => ((with_reducible show wpAny _ _ (execs (Stmt.Assign [Expr.Name (Str.ofString "taken") _] _ _ :: _) _) _ _ _); (with_reducible refine stopHere ?_)))
  (k_with "omega" => (first | k_extra "lt" | lia))
  (k_with "ibe5284" => (intro D' ws' h' F' N' l1 hI'; (try k_lt l1); revert D' ws' h' F' N' l1 hI'; intros))
  (k_with "ib74889" => (intro D' ws' h' F' N' l1 hI'; k_lt l1; revert D' ws' h' F' N' l1 hI'; intros))
  (k_with "i81887c" => (intro h' F' N'; (try simp only [List.push_toArray] at N'); revert h' F' N'; intros))
  trivial
inductive CutJ (h₀ : Heap) (L cu nc nn no nr cc : Addr) (cv ov rv : List Value) (iv : List (Int × Tok)) (ck nk ok rn : Nat) (o1 o2 o3 o4 o5 o6 o8 oc : Obj) (tail : List (Addr × Obj)) (cards : List (List Nat)) (size : Int) (ts : Tok) (st : Bool) (i : Nat) (m : Str → Option Value) (nx : List (Addr × Obj)) : Prop
  | mk (uv : List Value) (uk : Nat) (o7 : Obj) (z : Option Value) : (nx = (cu, listOf uv.toArray uk) :: (nc, listOf cv.toArray ck) :: (nn, listOf (ivals iv).toArray nk) :: (no, listOf ov.toArray ok) :: (nr, listOf rv.toArray rn) :: (L + 1 + 1 + 1 + 1 + 1 + 1 + 1 + 1, o8) :: (L + 1 + 1 + 1 + 1 + 1 + 1 + 1, o7) :: (L + 1 + 1 + 1 + 1 + 1 + 1, o6) :: (L + 1 + 1 + 1 + 1 + 1, o5) :: (L + 1 + 1 + 1 + 1, o4) :: (L + 1 + 1 + 1, o3) :: (L + 1 + 1, o2) :: (L + 1, o1) :: (167, tabObj #[rawInt 187, rawInt 18, .ref cc]) :: (cc, oc) :: tail) → (o7.data = .cell z) → (IntsAre uv (cutsOf cards (iv.map Prod.fst) i)) → (m (Str.ofString "cuts") = some (.ref cu)) → (m (Str.ofString "size") = some (.int size ts)) → (m (Str.ofString "stretches") = some (.bool st)) → CutJ h₀ L cu nc nn no nr cc cv ov rv iv ck nk ok rn o1 o2 o3 o4 o5 o6 o8 oc tail cards size ts st i m nx
set_option maxHeartbeats 4000000 in
theorem law4 {w : World} {q : Program} {mean : ExcName → Option Value} {mg mb : Str → Option Value} {loose : List Str} {tail : List (Addr × Obj)}
  {dp un : Nat} {gd : Option (List Code)} {f : Addr} {cdv : Value} {outer : List Env} {A₀ : Around} {base h₀ : Heap} {L : Addr} {m : Str → Option Value} {s : Shared} {E : Value → Shared → Prop} {Q : Flow → Shared → Prop} {sc : Scope} {b : List Stmt} {o1 o2 o3 o4 o5 o6 o7 o8 oc : Obj} {nr no nn cc : Addr} {rv ov : List Value} {rl o : List Int} {iv : List (Int × Tok)} {rn ok nk : Nat} {size base9 : Int} {ts tb : Tok} {nc : Addr} {cv : List Value} {ck : Nat} {st : Bool} {cvs : Array Value} {tq : Tok}
    (hsc : scAt 71 = some sc) (hb : (defBody 71).drop 10 = b) (B : Below A₀ base outer h₀) (X : (K0 w.params).In h₀) (T : Top q loose mean mg mb h₀) (hd : dp + 12 < recursionLimit) (hu : un + 64 * 12 < cLine) (F : Fr h₀ L s.heap m) (hm : m (Str.ofString "size") = some (.int size ts)) (hlt : TailLt L tail)
    (hs3 : 3 ≤ size) (hs6 : size ≤ 6) (hb0 : 208 ≤ base9) (hb1 : base9 ≤ 263) (h167 : @LT.lt Nat _ 167 L) (hnr : @LT.lt Nat _ (L + 1 + 1 + 1 + 1 + 1 + 1 + 1 + 1) nr) (hno : @LT.lt Nat _ nr no) (hnn : @LT.lt Nat _ no nn) (hcc : @LT.lt Nat _ nn cc)
    (d1 : o1.data = .cell (some (.ref nr))) (d3 : o3.data = .cell (some (.int base9 tb))) (d4 : o4.data = .cell (some (.ref no))) (d5 : o5.data = .cell (some (.ref nn))) (hi : IntsAre rv rl) (hl : rl.length = 29) (hrb : ∀ r ∈ rl, 0 ≤ r ∧ r < 5184) (hov : IntsAre ov o) (hop : o.Perm (upTo size.toNat)) (hiv : iv.map Prod.fst = o.map (fun x => base9 + x))
    (hcv : StrsAre cv ((cards2 size base9 rl).map fun l => ⟨l.toArray⟩)) (d6 : o6.data = .cell (some (.ref nc))) (hst : m (Str.ofString "stretches") = some (.bool st)) (hnc : @LT.lt Nat _ cc nc) (eoc : oc.data = .fields cvs) (ecv : cvs[1]? = some (.str (Str.ofString "_law_reader.<locals>.<lambda>") tq)) (hof : TailOff 167 tail) (d7 : o7.data = .cell none)
    (N : News h₀ L s.heap ((nc, listOf cv.toArray ck) :: (nn, listOf (ivals iv).toArray nk) :: (no, listOf ov.toArray ok) :: (nr, listOf rv.toArray rn) :: (L + 1 + 1 + 1 + 1 + 1 + 1 + 1 + 1, o8) :: (L + 1 + 1 + 1 + 1 + 1 + 1 + 1, o7) :: (L + 1 + 1 + 1 + 1 + 1 + 1, o6) :: (L + 1 + 1 + 1 + 1 + 1, o5) :: (L + 1 + 1 + 1 + 1, o4) :: (L + 1 + 1 + 1, o3) :: (L + 1 + 1, o2) :: (L + 1, o1) :: (167, tabObj #[rawInt 187, rawInt 18, .ref cc]) :: (cc, oc) :: tail))
    (hcuts : cutsOf (cards2 size base9 rl) (iv.map Prod.fst) (size.toNat + 1) = if st = true then [o.getD (Int.toNat 0) 0, o.getD (Int.toNat 0) 0 + 1] else [])
    (next : ∀ (m' : Str → Option Value) (o7' : Obj) (z : Option Value) h' gs tk, Fr h₀ L h' m' → News h₀ L h' ((nc, listOf cv.toArray ck) :: (nn, listOf (ivals iv).toArray nk) :: (no, listOf ov.toArray ok) :: (nr, listOf rv.toArray rn) :: (L + 1 + 1 + 1 + 1 + 1 + 1 + 1 + 1, o8) :: (L + 1 + 1 + 1 + 1 + 1 + 1 + 1, o7') :: (L + 1 + 1 + 1 + 1 + 1 + 1, o6) :: (L + 1 + 1 + 1 + 1 + 1, o5) :: (L + 1 + 1 + 1 + 1, o4) :: (L + 1 + 1 + 1, o3) :: (L + 1 + 1, o2) :: (L + 1, o1) :: (167, tabObj #[rawInt 187, rawInt 18, .ref cc]) :: (cc, oc) :: tail) → o7'.data = .cell z → m' (Str.ofString "stretches") = some (.bool st) → m' (Str.ofString "size") = some (.int size ts) →
      wpAny (model rw_sn0078_01.row.prog w) (ktrTop dp un gd (Str.ofString "law") sc L f cdv (cellsFrom (L + 1) sc.names []) outer) (execs (b.drop 3) (envOfC (Str.ofString "law") sc L f cdv)) Q E { s with heap := h', gens := gs, toks := tk }) :
    wpAny (model rw_sn0078_01.row.prog w) (ktrTop dp un gd (Str.ofString "law") sc L f cdv (cellsFrom (L + 1) sc.names []) outer) (execs b (envOfC (Str.ofString "law") sc L f cdv)) Q E s := by
  revert X; k_fill; intro X
  have h2 : scAt 71 = some _ := rfl
  have e2 := hsc.symm.trans h2
  clear hsc h2
  injection e2 with e2
  subst e2
  have h1 : (defBody 71).drop 10 = _ := rfl
  have e1 := hb.symm.trans h1
  clear hb h1
  subst e1
  dsimp only [List.drop] at next
  have hom := upTo_mem hop
  have hol : o.length = size.toNat := hop.length_eq.trans (upTo_len _)
  have hcl : (cards2 size base9 rl).length = size.toNat := by simp [cards2]
  have hcb := cards2_bd (size := size) (rl := rl) hb0
  (show let A' := _; wpAny _ A' _ _ _ _); intro A'
  k_steps
  rename_i cu hO lO hO2 FO NO _ hX tX tt1 tu1 tv1 hR FR NR eR
  have hnl : iv.length = size.toNat := by
    have := congrArg List.length hiv
    rw [List.length_map, List.length_map] at this; omega
  refine' forRange (size.toNat + 1) (CutJ h₀ L cu nc nn no nr cc cv ov rv iv ck nk ok rn o1 o2 o3 o4 o5 o6 o8 oc tail (cards2 size base9 rl) size ts st) ?hh (by k_asm) (by k_asm) hR ?hs ?hn ⟨[], 0, _, _, rfl, d7, .nil, ?m1, ?m2, ?m3⟩ ?adr ?turn ?done ?ht
  case hh => exact rfl
  case hs => exact small_one (by omega) (by omega) (by omega) (by omega)
  case hn => rw [rangeSize_nat]; omega
  case ht => exact fun _ _ => rfl
  case m1 => exact if_pos rfl
  case m2 => exact (if_neg (by decide)).trans hm
  case m3 => exact (if_neg (by decide)).trans hst
  case adr =>
    rintro i m nx ⟨uv, uk, o7', z, rfl, _⟩ p hp
    have hp' := List.mem_map_of_mem (f := Prod.fst) hp
    exact List.mem_map.mp hp'
  case turn =>
    rintro i t m₂ nx hh gs tkk I oI hi9 ⟨uv, uk, o7', z, rfl, hz7, huv, hm1, hm2, hm3⟩ hI F' N' Q' hQ E₁ E₂
    k_lt hI
    have hii : (0 : Int) + (i : Int) = (i : Int) := Int.zero_add _
    rw [hii]
    have huvl : uv.length ≤ i := by rw [huv.length]; exact cutsOf_len _ _ _
    have hdb := dealt_bd (fun l hl => (hcb l hl).2) i
    have hdr : (((cards2 size base9 rl).drop (i : Int).toNat).map List.length).sum ≤ 11 * ((cards2 size base9 rl).length - (i : Int).toNat) := by
      have := sum_bd ((cards2 size base9 rl).drop (i : Int).toNat) 11 fun l hl => (hcb l (List.mem_of_mem_drop hl)).2
      rwa [List.length_drop] at this
    refine wpAny_assign_Name ?_
    k_steps
    rename_i hR5 FR5 NR5 eR5
    obtain ⟨o7b, NRb, d7b⟩ : ∃ z : Obj, News _ L _ ((I, oI) :: (cu, listOf uv.toArray uk) :: (nc, listOf cv.toArray ck) :: (nn, listOf (ivals iv).toArray nk) :: (no, listOf ov.toArray ok) :: (nr, listOf rv.toArray rn) :: (L + 1 + 1 + 1 + 1 + 1 + 1 + 1 + 1, o8) :: (L + 1 + 1 + 1 + 1 + 1 + 1 + 1, z) :: (L + 1 + 1 + 1 + 1 + 1 + 1, o6) :: (L + 1 + 1 + 1 + 1 + 1, o5) :: (L + 1 + 1 + 1 + 1, o4) :: (L + 1 + 1 + 1, o3) :: (L + 1 + 1, o2) :: (L + 1, o1) :: (167, tabObj #[rawInt 187, rawInt 18, .ref cc]) :: (cc, oc) :: tail) ∧ z.data = .cell (some (.int (i : Int) t)) := ⟨_, NR5, by assumption⟩
    clear NR5
    refine' compRangeC i (fun j ys => StrsAre ys (((dealtL (cards2 size base9 rl) i).take j).map fun l => ⟨l.toArray⟩)) ?hh2 (by k_asm) (by k_asm) hR5 ?hs2 ?hn2 ?hz2 .nil ?hlen2 ?turn2 ?done2
    case hh2 => exact rfl
    case hs2 => exact small_one (by omega) (by omega) (by omega) (by omega)
    case hn2 => rw [rangeSize_nat]; omega
    case hz2 => rw [sizeLine_eq]; omega
    case hlen2 =>
      rintro j ys h
      have := strs_len h
      rw [List.length_map, List.length_take] at this; omega
    case turn2 =>
      rintro j tj ys D C I2 nD oC o' hh gs tkk mC hj9 hys hI2 hID hDC hC hmC F' N' Q' hQ E₁ E₂
      k_lt hI2
      refine wpAny_tests_nil ?_
      rw [if_pos rfl]
      have hjj : (0 : Int) + (j : Int) = (j : Int) := Int.zero_add _
      rw [hjj] at hmC
      have hst2 : (dealtL (cards2 size base9 rl) i).take (j + 1) = (dealtL (cards2 size base9 rl) i).take j ++ [(cards2 size base9 rl).getD ((i : Int) - 1 - (j : Int)).toNat []] := range_take _ _ hj9 _
      k_steps
      exact hQ.next _ _ _ _ (by assumption) (by assumption) (hst2.symm ▸ strs_snocL hys _ _)
    case done2 =>
      rintro D nD ys hh gs tkk hys hD F' N'
      rw [List.take_of_length_le (by simp [dealtL])] at hys
      k_lt hD
      (try k_unmd)
      k_steps
      rename_i D8 ws8 h8 F8 N8 hI8 l8 t8 k8
      have NF : News h₀ L h8 ((167, tabObj #[rawInt 187, rawInt 18, .ref cc]) :: (cc, oc) :: (nn, listOf (ivals iv).toArray nk) :: (I, oI) :: (cu, listOf uv.toArray uk) :: (nc, listOf cv.toArray ck) :: (no, listOf ov.toArray ok) :: (nr, listOf rv.toArray rn) :: (L + 1 + 1 + 1 + 1 + 1 + 1 + 1 + 1, o8) :: (L + 1 + 1 + 1 + 1 + 1 + 1 + 1, o7b) :: (L + 1 + 1 + 1 + 1 + 1 + 1, o6) :: (L + 1 + 1 + 1 + 1 + 1, o5) :: (L + 1 + 1 + 1 + 1, o4) :: (L + 1 + 1 + 1, o3) :: (L + 1 + 1, o2) :: (L + 1, o1) :: tail) := news_sub N8 (by first | ((repeat' (first | exact sub_self _ | with_reducible refine sub_cons ?_ | refine sub_cons ?_ | refine sub_skip ?_)); done) | (simp only [List.cons_append, List.nil_append, List.forall_mem_cons]; exact ⟨by k_mem, by k_mem, by k_mem, by k_mem, by k_mem, by k_mem, by k_mem, by k_mem, by k_mem, by k_mem, by k_mem, by k_mem, by k_mem, by k_mem, by k_mem, by k_mem, fun p hp => by repeat (first | assumption | refine List.mem_cons_of_mem _ ?_)⟩))
      have hof9 : TailOff 167 ((nn, listOf (ivals iv).toArray nk) :: (I, oI) :: (cu, listOf uv.toArray uk) :: (nc, listOf cv.toArray ck) :: (no, listOf ov.toArray ok) :: (nr, listOf rv.toArray rn) :: (L + 1 + 1 + 1 + 1 + 1 + 1 + 1 + 1, o8) :: (L + 1 + 1 + 1 + 1 + 1 + 1 + 1, o7b) :: (L + 1 + 1 + 1 + 1 + 1 + 1, o6) :: (L + 1 + 1 + 1 + 1 + 1, o5) :: (L + 1 + 1 + 1 + 1, o4) :: (L + 1 + 1 + 1, o3) :: (L + 1 + 1, o2) :: (L + 1, o1) :: tail) := (by
        have q1 : 167 < nr := Nat.lt_trans (Nat.lt_of_lt_of_le h167 (Nat.le_add_right L 8)) hnr
        have q2 : 167 < no := Nat.lt_trans q1 hno
        have q3 : 167 < nn := Nat.lt_trans q2 hnn
        have q4 : 167 < nc := Nat.lt_trans q3 (Nat.lt_trans hcc hnc)
        have q5 : 167 < cu := Nat.lt_trans q4 (And.left (by assumption : nc < cu ∧ _))
        have q6 : 167 < I := Nat.lt_trans q5 (And.left (by assumption : cu < I ∧ _))
        exact ⟨fm_cons (Nat.ne_of_gt q3) (fm_cons (Nat.ne_of_gt q6) (fm_cons (Nat.ne_of_gt q5) (fm_cons (Nat.ne_of_gt q4) (fm_cons (Nat.ne_of_gt q2) (fm_cons (Nat.ne_of_gt q1) (off8 h167 hof))))))⟩)
      unfold Stop
      refine' g_falls (s := ⟨h8, gs, s.drawn, k8, s.os⟩) F8 NF ?xa ?xb ?xc hof9 ?xd eoc ecv B X T ?xe ?xf ?xg ?_
      case xa => rw [List.length_flatten]; omega
      case xb => rw [List.length_flatten]; omega
      case xc => omega
      case xd => exact Nat.ne_of_gt (by omega)
      case xe => exact rfl
      case xf => omega
      case xg => omega
      intro hF gsF tkF FF NFF
      have hfa : fallsAt (cards2 size base9 rl) (iv.map Prod.fst) i = fallsOf [] (dealtL (cards2 size base9 rl) i).flatten ((cards2 size base9 rl).drop (i : Int).toNat).flatten (iv.map Prod.fst) := rfl
      (try k_unmd)
      k_steps
      all_goals first
        | (have hft : fallsAt (cards2 size base9 rl) (iv.map Prod.fst) i = true := hfa.trans (by assumption)
           exact hQ.next _ _ _ _ _ (by assumption) (news_sub (by assumption) (by first | ((repeat' (first | exact sub_self _ | with_reducible refine sub_cons ?_ | refine sub_cons ?_ | refine sub_skip ?_)); done) | (simp only [List.cons_append, List.nil_append, List.forall_mem_cons]; exact ⟨by k_mem, by k_mem, by k_mem, by k_mem, by k_mem, by k_mem, by k_mem, by k_mem, by k_mem, by k_mem, by k_mem, by k_mem, by k_mem, by k_mem, by k_mem, by k_mem, fun p hp => by repeat (first | assumption | refine List.mem_cons_of_mem _ ?_)⟩))) ⟨_, _, _, _, rfl, d7b, (cutsOf_yes hft).symm ▸ huv.append (.cons _ _ .nil), (by exact (if_neg (by decide)).trans hm1), (by exact (if_neg (by decide)).trans hm2), (by exact (if_neg (by decide)).trans hm3)⟩)
        | (have hft : fallsAt (cards2 size base9 rl) (iv.map Prod.fst) i = false := hfa.trans (by assumption)
           exact hQ.next _ _ _ _ _ (by assumption) (news_sub (by assumption) (by first | ((repeat' (first | exact sub_self _ | with_reducible refine sub_cons ?_ | refine sub_cons ?_ | refine sub_skip ?_)); done) | (simp only [List.cons_append, List.nil_append, List.forall_mem_cons]; exact ⟨by k_mem, by k_mem, by k_mem, by k_mem, by k_mem, by k_mem, by k_mem, by k_mem, by k_mem, by k_mem, by k_mem, by k_mem, by k_mem, by k_mem, by k_mem, by k_mem, fun p hp => by repeat (first | assumption | refine List.mem_cons_of_mem _ ?_)⟩))) ⟨_, _, _, _, rfl, d7b, (cutsOf_no hft).symm ▸ huv, (by exact (if_neg (by decide)).trans hm1), (by exact (if_neg (by decide)).trans hm2), (by exact (if_neg (by decide)).trans hm3)⟩)
  case done =>
    rintro m₂ nx hh gs tkk ⟨uv, uk, o7', z, rfl, hz7, huv, hm1, hm2, hm3⟩ F' N'
    have hovl : ov.length = size.toNat := hov.length.trans hol
    have huvl : uv.length ≤ size.toNat + 1 := by rw [huv.length]; exact cutsOf_len _ _ _
    dsimp only
    k_steps
    all_goals first
      | (unfold Stop
         exact next _ _ _ _ _ _ (by assumption) (news_sub (by assumption) (by first | ((repeat' (first | exact sub_self _ | with_reducible refine sub_cons ?_ | refine sub_cons ?_ | refine sub_skip ?_)); done) | (simp only [List.cons_append, List.nil_append, List.forall_mem_cons]; exact ⟨by k_mem, by k_mem, by k_mem, by k_mem, by k_mem, by k_mem, by k_mem, by k_mem, by k_mem, by k_mem, by k_mem, by k_mem, by k_mem, by k_mem, fun p hp => by repeat (first | assumption | refine List.mem_cons_of_mem _ ?_)⟩))) hz7 hm3 hm2)
      | (exfalso
         have hq : st = true := (by assumption)
         rw [hq, if_pos rfl] at hcuts
         first | exact absurd hcuts (by assumption) | exact absurd hcuts (of_decide_eq_false (by assumption)))
      | (exfalso
         have hq : st = false := (by assumption)
         rw [hq, if_neg (by decide)] at hcuts
         first | exact absurd hcuts (by assumption) | exact absurd hcuts (of_decide_eq_false (by assumption)))
theorem rg_ConL5_0 : True := by
  k_with_none
  (k_with "omega" => (first | lia))
  trivial
noncomputable def tkR (k one two : Int) (ns : List Int) : Bool := (aheads k one two ns).all fun a => decide (a < 2)
noncomputable def rowP (ns : List Int) (k one t : Nat) : List Bool := ((List.range t).filter fun i => !(i == one)).map fun i : Nat => tkR (k : Int) (one : Int) (i : Int) ns
noncomputable def takK (ns : List Int) (k : Nat) : Nat → List Bool
  | 0 => []
  | j + 1 => takK ns k j ++ rowP ns k j k
noncomputable def takAll (ns : List Int) : Nat → List Bool
  | 0 => []
  | i + 1 => takAll ns i ++ takK ns (2 + i) (2 + i)
theorem rowP_yes {ns : List Int} {k one t : Nat} (h : t ≠ one) : rowP ns k one (t + 1) = rowP ns k one t ++ [tkR (k : Int) (one : Int) (t : Int) ns] := by
  simp [rowP, List.range_succ, List.filter_append, h]
theorem rowP_no {ns : List Int} {k one t : Nat} (h : t = one) : rowP ns k one (t + 1) = rowP ns k one t := by
  simp [rowP, List.range_succ, List.filter_append, h]
theorem rowP_len (ns : List Int) (k one t : Nat) : (rowP ns k one t).length ≤ t := by
  unfold rowP
  rw [List.length_map]
  exact Nat.le_trans (List.length_filter_le _ _) (by simp)
theorem rowP_pos (ns : List Int) {k one : Nat} (hk : 2 ≤ k) : 0 < (rowP ns k one k).length := by
  unfold rowP
  rw [List.length_map]
  by_cases h : one = 0
  · exact List.length_pos_of_mem (a := 1) (List.mem_filter.mpr ⟨List.mem_range.mpr (by omega), by simp; omega⟩)
  · exact List.length_pos_of_mem (a := 0) (List.mem_filter.mpr ⟨List.mem_range.mpr (by omega), by simp; omega⟩)
section
variable {prog : Program} {w : World} {A : Around} {E : Value → Shared → Prop} {s : Shared} {h₀ : Heap} {L D : Addr} {m : Str → Option Value} {news news' : List (Addr × Obj)} {vs : List Value} {n : Nat} {t u : Tok}
theorem ext_led {b : Addr} {ws : List Value} {n2 : Nat} {Q : Value → Shared → Prop} (F : Fr h₀ L s.heap m) (N : News h₀ L s.heap news) (hb : (b, listOf ws.toArray n2) ∈ news) (U : Upd D (listOf vs.toArray n) (listOf (vs ++ ws).toArray (n + 1)) news news') (hne : 0 < ws.length) (hz : vs.length + ws.length ≤ 1000)
    (h : ∀ h', Fr h₀ L h' m → News h₀ L h' news' → Q .none { s with heap := h' }) : wpAny (model prog w) A (call (.builtin "list.extend") [.ref D, .ref b]) Q E s := by
  refine kl_extend F N hb (l := vs ++ ws) (by simp) (by show ws.length ≠ 0; omega) U ?_ (by rw [sizeLine_eq]; simp; omega) (by rw [sizeLine_eq]; simp only [List.size_toArray]; omega) h
  have : Builtin.List.listTooLong (vs.toArray.size + ws.toArray.size) = false := by
    unfold Builtin.List.listTooLong
    rw [sizeLine_eq]
    simp only [List.size_toArray, gt_iff_lt, decide_eq_false_iff_not]
    omega
  rw [this]; simp
theorem notin_str {bs : List Bool} {x : Str} {Q : Value → Shared → Prop} (N : News h₀ L s.heap news) (hm : (D, listOf (bs.map Value.bool).toArray n) ∈ news) (h : Q (.bool true) s) : wpAny (model prog w) A (compareOp .NotIn (.str x t) (.ref D)) Q E s := by
  have hl : s.heap.IsList D (bs.map Value.bool).toArray := ⟨_, (N _ hm).1, rfl, n, rfl⟩
  refine PySem.SeqAt.notIn_listAt (fun _ => false) hl (fun y hy => ?_) (by rw [show (bs.map Value.bool).toArray.any (fun _ => false) = false by rw [List.any_toArray]; exact List.any_eq_false.mpr fun _ _ => by simp]; exact h)
  obtain ⟨b, _, rfl⟩ := List.mem_map.mp (List.mem_toArray.mp hy)
  exact PySem.SeqAt.EqAt.bool_str b x t
theorem notin_bool {bs : List Bool} {Q : Value → Shared → Prop} (N : News h₀ L s.heap news) (hm : (D, listOf (bs.map Value.bool).toArray n) ∈ news) (h : Q (.bool (!bs.any fun b => b == false)) s) : wpAny (model prog w) A (compareOp .NotIn (.bool false) (.ref D)) Q E s := by
  have hl : s.heap.IsList D (bs.map Value.bool).toArray := ⟨_, (N _ hm).1, rfl, n, rfl⟩
  refine PySem.SeqAt.notIn_listAt (fun y => match y with | .bool b => b == false | _ => false) hl (fun y hy => ?_) ?_
  · obtain ⟨b, _, rfl⟩ := List.mem_map.mp (List.mem_toArray.mp hy)
    exact PySem.SeqAt.EqAt.bool_bool b false
  · have e : (bs.map Value.bool).toArray.any (fun y => match y with | .bool b => b == false | _ => false) = bs.any fun b => b == false := by
      simp only [List.any_toArray, List.any_map]
      rfl
    rw [e]; exact h
end
section
variable {w : World} {q : Program} {mean : ExcName → Option Value} {mg mb : Str → Option Value} {loose : List Str} {tail news : List (Addr × Obj)}
  {dp un : Nat} {gd : Option (List Code)} {cn : Str} {cs : Scope} {a : Addr} {ccd : Value} {cl : List (Str × Addr)} {outer : List Env} {A₀ : Around} {base h₀ : Heap} {L : Addr} {m : Str → Option Value} {s : Shared} {E : Value → Shared → Prop} {Q : Value → Shared → Prop}
theorem g_taken {nl : Addr} {vs : List Value} {ns : List Int} {nn : Nat} {k one two : Int} {tk1 t1 t2 : Tok} {r : Bool} (F : Fr h₀ L s.heap m) (N : News h₀ L s.heap news) (hm : (nl, listOf vs.toArray nn) ∈ news)
    (hp : IntsAre vs ns ∧ 2 ≤ k ∧ k ≤ 5 ∧ 0 ≤ one ∧ one < k ∧ 0 ≤ two ∧ two < k ∧ ns.length ≤ 6 ∧ (∀ n ∈ ns, 0 ≤ n ∧ n ≤ 300) ∧ TakenOk k one two ns r)
    (B : Below A₀ base outer h₀) (X : (K0 w.params).In h₀) (T : Top q loose mean mg mb h₀) (hk : cs.kind = .function) (hd : dp + 10 < recursionLimit) (hu : un + 64 * 10 < cLine)
    (h : ∀ h' gs' tk', Fr h₀ L h' m → News h₀ L h' news → Q (.bool r) { s with heap := h', gens := gs', toks := tk' }) :
    wpAny (model rw_sn0078_01.row.prog w) (ktrTop dp un gd cn cs L a ccd cl outer) (call (.ref 194) [.ref nl, .int k tk1, .int one t1, .int two t2]) Q E s := by
  refine wpAny_call (c_taken w q mean mg mb loose news nl vs ns nn k one two tk1 t1 t2 r dp un gd cn cs a ccd cl outer A₀ base h₀ L m s Q E B F X (fun p hp => ?_) T hk hp hd hu ?_)
  · rcases List.mem_cons.mp hp with rfl | hp
    · exact N _ hm
    · exact N p hp
  · rintro v news' h' gs' tk' ⟨rfl, rfl⟩ F' N' x'
    exact h h' gs' tk' F' fun p hp => N' p (.tail _ hp)
end
theorem rg_ConL5_1 : True := by
  k_with_none
  (k_with "my_cell_enter" => (refine' code_defCG (B := by k_asm) (F := by k_asm) (by k_asm) (N := by k_asm) (T := by k_asm) (hA := by exact rfl) (hf := by exact rfl) (hke := by assumption) (ho := by k_is) (hcd := by k_is) (hroom := by ktr_room) (hbind := by exact BindsTo.of_eq rfl) (hkind := by exact rfl) (hnd := by decide +kernel) ?_ (hco := by exact rfl) (hgen := by exact rfl) (hk := by exact rfl); k_whole; intro g' L' h' tk' cells' FG' F' N' Y' B' X' T' l1 GS'; (try k_lt l1); (try (first | have tl' := TailLt.mk l1 | have tl' := TailLt.mk l1.2 | have tl' := TailLt.mk l1.2.2 | have tl' := TailLt.mk l1.2.2.2 | have tl' := TailLt.mk l1.2.2.2.2 | have tl' := TailLt.mk l1.2.2.2.2.2)); k_cells Y'; (try simp only [List.cons_append, List.nil_append] at N'); (try dsimp only); (try k_lift B'); (try k_fold)))
  (k_with "eval Constant int" => (refine constI ?_))
  (k_with "eval Constant str" => (refine constS ?_))
  (k_with "eval Call" => ((show let Q9 := _; wpAny _ _ _ Q9 _ _); intro Q9; refine Call_ ?_))
  (k_with "eval Call Attribute" => ((show let Q9 := _; wpAny _ _ _ Q9 _ _); intro Q9; refine MethodCall_ ?_))
  (k_with "exec If" => ((show let Q9 := _; wpAny _ _ _ Q9 _ _); intro Q9; refine wpAny_If ?_))
  (k_with "exec Assign" => ((show let Q9 := _; wpAny _ _ _ Q9 _ _); intro Q9; refine wpAny_Assign_Name ?_))
  (k_with "exec AugAssign" => ((show let Q9 := _; wpAny _ _ _ Q9 _ _); intro Q9; refine wpAny_AugAssign_Name ?_))
  (k_with "eval BinOp" => ((show let Q9 := _; wpAny _ _ _ Q9 _ _); intro Q9; refine wpAny_BinOp ?_))
  (k_with "eval Compare" => ((show let Q9 := _; wpAny _ _ _ Q9 _ _); intro Q9; refine wpAny_Compare1 ?_))
  (k_with "isTrue Compare" => ((show let Q9 := _; wpAny _ _ _ Q9 _ _); intro Q9; refine wpAny_isTrue_Compare1 ?_))
  (k_with "eval Subscript" => ((show let Q9 := _; wpAny _ _ _ Q9 _ _); intro Q9; refine Subscript_ ?_))
  (k_with "my_k_all" => (refine' TailLt.ne (h := by assumption) (hc := by first | exact Nat.le_refl _ | omega)))
  (k_with "my_k_all" => (exact TailOff.ne (by assumption)))
  (k_with "my_k_all" => (exact allLt_ne (by assumption)))
  (k_with "a" => (with_reducible assumption))
  (k_with "lt" => ((first | (with_reducible show @LT.lt Nat _ _ _) | (with_reducible show @LE.le Nat _ _ _)); first | k_extra "a" | (with_reducible refine Nat.lt_of_succ_lt ?_; k_extra "a") | (with_reducible refine Nat.le_of_lt ?_; first | k_extra "a" | (refine Nat.lt_of_succ_lt ?_; k_extra "a")) | (with_reducible refine Nat.lt_trans ?_ (by with_reducible assumption); k_extra "lt")))
  (k_with "lt0" => (first | with_reducible exact Nat.lt_succ_self _ | with_reducible assumption | (with_reducible refine Nat.lt_succ_of_lt ?_; k_extra "lt0")))
  (k_with "my_k_ne" => (refine neN ?_; (try dsimp only); first | (refine Nat.ne_of_lt ?_; k_extra "lt0") | (refine Nat.ne_of_gt ?_; k_extra "lt0") | (refine Nat.ne_of_lt ?_; k_extra "lt") | (refine Nat.ne_of_gt ?_; k_extra "lt")))
  (k_with "eval Name" => (k_here; (fail_if_success (with_reducible show wpAny _ _ (eval _ (compEnvC _ _ _ _)) _ _ _)); k_dflt (refine' nameX_L2 (hx := by rfl) (hk := by rfl) (hd := by rfl) (F := by k_asm) (hv := by (first | exact rfl | assumption | ((repeat refine (if_neg (by decide)).trans ?_); first | assumption | exact if_pos rfl))) ?_; k_whole)))
  (k_with "exec Assign cons ListComp" => (k_here; k_dflt (refine wpAny_Assign_Name ?_ (hs := by with_unfolding_all rfl))))
  (k_with "exec Assign cons ListComp" => (k_here; k_dflt (refine' compJ_assign (hsw := by with_unfolding_all rfl) (hclos := by exact rfl) (hcell := by decide) (hkind := by exact rfl) (hnames := by decide) (hx := by exact rfl) (hy := by exact rfl) (hp := by exact rfl) ?_ (hs := by exact fun _ => rfl)); (try dsimp only)))
  (k_with "eval ListComp" => (k_here; k_dflt (refine' compJ_eval (hclos := by exact rfl) (hcell := by decide) (hkind := by exact rfl) (hnames := by decide) (hx := by exact rfl) ?_ (hs := by exact fun _ => rfl)); (try dsimp only)))
  (k_with "exec For Name Name cons nil" => (k_here; k_dflt (refine' wpAny_For ?_ (hs := by exact fun _ => rfl))))
  (k_with "exec For Name Call cons nil" => (k_here; k_dflt (refine' wpAny_For ?_ (hs := by exact fun _ => rfl))))
  (k_with "compareOp NotIn str ref" => (k_here; (with_reducible show wpAny _ _ (compareOp CmpOp.NotIn (Value.str _ _) (Value.ref _)) _ _ _); k_dflt (refine' notin_str (N := by k_asm) (hm := by k_mem) ?_)))
  (k_with "compareOp NotIn bool ref" => (k_here; (with_reducible show wpAny _ _ (compareOp CmpOp.NotIn (Value.bool false) (Value.ref _)) _ _ _); k_dflt (refine' notin_bool (N := by k_asm) (hm := by k_mem) ?_)))
  (k_with "call builtin:list.extend" => (k_here; (with_reducible show wpAny _ _ (call (Value.builtin "list.extend") [Value.ref _, Value.ref _]) _ _ _); k_dflt (refine' ext_led (F := by k_asm) (N := by k_asm) (hb := by k_mem) (U := by k_upd) (hne := by (rw [List.length_map]; assumption)) (hz := by (rw [List.length_map, List.length_map]; omega)) ?_); walk_at "if4070c"))
  (k_with "call ref" => ((with_reducible show wpAny _ _ (call (Value.ref 194) _) _ _ _); (with_reducible refine stopHere ?_)))
  (k_with "omega" => (first | k_extra "lt" | lia))
  (k_with "if4070c" => (intro h' F' N'; (try rw [← List.map_append] at N'); revert h' F' N'; intros))
  trivial
inductive TkJ (L ta nc nn no nr cc : Addr) (cv ov rv : List Value) (iv : List (Int × Tok)) (ck nk ok rn : Nat) (o1 o3 o4 o5 o6 o7 oc : Obj) (tail : List (Addr × Obj)) (ns : List Int) (size : Int) (ts : Tok) (st : Bool) (i : Nat) (m : Str → Option Value) (nx : List (Addr × Obj)) : Prop
  | mk (bs : List Bool) (bk : Nat) (x2 x8 : Obj) (z2 z8 : Option Value) : (nx = (ta, listOf (bs.map Value.bool).toArray bk) :: (nc, listOf cv.toArray ck) :: (nn, listOf (ivals iv).toArray nk) :: (no, listOf ov.toArray ok) :: (nr, listOf rv.toArray rn) :: (L + 1 + 1 + 1 + 1 + 1 + 1 + 1 + 1, x8) :: (L + 1 + 1 + 1 + 1 + 1 + 1 + 1, o7) :: (L + 1 + 1 + 1 + 1 + 1 + 1, o6) :: (L + 1 + 1 + 1 + 1 + 1, o5) :: (L + 1 + 1 + 1 + 1, o4) :: (L + 1 + 1 + 1, o3) :: (L + 1 + 1, x2) :: (L + 1, o1) :: (167, tabObj #[rawInt 187, rawInt 18, .ref cc]) :: (cc, oc) :: tail) → (x2.data = .cell z2) → (x8.data = .cell z8) → (bs = takAll ns i) → (bs.length ≤ 36 * i) → (m (Str.ofString "taken") = some (.ref ta)) → (m (Str.ofString "size") = some (.int size ts)) → (m (Str.ofString "stretches") = some (.bool st)) → TkJ L ta nc nn no nr cc cv ov rv iv ck nk ok rn o1 o3 o4 o5 o6 o7 oc tail ns size ts st i m nx
inductive TkJ2 (I : Addr) (oI : Obj) (L ta nc nn no nr cc : Addr) (cv ov rv : List Value) (iv : List (Int × Tok)) (ck nk ok rn : Nat) (o1 y2 o3 o4 o5 o6 o7 oc : Obj) (tail : List (Addr × Obj)) (ns : List Int) (size : Int) (ts : Tok) (st : Bool) (i j : Nat) (m : Str → Option Value) (nx : List (Addr × Obj)) : Prop
  | mk (bs : List Bool) (bk : Nat) (x8 : Obj) (z8 : Option Value) : (nx = (I, oI) :: (ta, listOf (bs.map Value.bool).toArray bk) :: (nc, listOf cv.toArray ck) :: (nn, listOf (ivals iv).toArray nk) :: (no, listOf ov.toArray ok) :: (nr, listOf rv.toArray rn) :: (L + 1 + 1 + 1 + 1 + 1 + 1 + 1 + 1, x8) :: (L + 1 + 1 + 1 + 1 + 1 + 1 + 1, o7) :: (L + 1 + 1 + 1 + 1 + 1 + 1, o6) :: (L + 1 + 1 + 1 + 1 + 1, o5) :: (L + 1 + 1 + 1 + 1, o4) :: (L + 1 + 1 + 1, o3) :: (L + 1 + 1, y2) :: (L + 1, o1) :: (167, tabObj #[rawInt 187, rawInt 18, .ref cc]) :: (cc, oc) :: tail) → (x8.data = .cell z8) → (bs = takAll ns i ++ takK ns (2 + i) j) → (bs.length ≤ 36 * i + 6 * j) → (m (Str.ofString "taken") = some (.ref ta)) → (m (Str.ofString "size") = some (.int size ts)) → (m (Str.ofString "stretches") = some (.bool st)) → TkJ2 I oI L ta nc nn no nr cc cv ov rv iv ck nk ok rn o1 y2 o3 o4 o5 o6 o7 oc tail ns size ts st i j m nx
set_option maxHeartbeats 4000000 in
theorem law5 {w : World} {q : Program} {mean : ExcName → Option Value} {mg mb : Str → Option Value} {loose : List Str} {tail : List (Addr × Obj)}
  {dp un : Nat} {gd : Option (List Code)} {f : Addr} {cdv : Value} {outer : List Env} {A₀ : Around} {base h₀ : Heap} {L : Addr} {m : Str → Option Value} {s : Shared} {E : Value → Shared → Prop} {Q : Flow → Shared → Prop} {sc : Scope} {b : List Stmt} {o1 o2 o3 o4 o5 o6 o7 o8 oc : Obj} {nr no nn cc : Addr} {rv ov : List Value} {rl o : List Int} {iv : List (Int × Tok)} {rn ok nk : Nat} {size base9 : Int} {ts tb : Tok} {nc : Addr} {cv : List Value} {ck : Nat} {st : Bool} {cvs : Array Value} {tq : Tok} {z7 : Option Value}
    (hsc : scAt 71 = some sc) (hb : (defBody 71).drop 13 = b) (B : Below A₀ base outer h₀) (X : (K0 w.params).In h₀) (T : Top q loose mean mg mb h₀) (hd : dp + 12 < recursionLimit) (hu : un + 64 * 12 < cLine) (F : Fr h₀ L s.heap m) (hm : m (Str.ofString "size") = some (.int size ts)) (hlt : TailLt L tail)
    (hs3 : 3 ≤ size) (hs6 : size ≤ 6) (hb0 : 208 ≤ base9) (hb1 : base9 ≤ 263) (h167 : @LT.lt Nat _ 167 L) (hnr : @LT.lt Nat _ (L + 1 + 1 + 1 + 1 + 1 + 1 + 1 + 1) nr) (hno : @LT.lt Nat _ nr no) (hnn : @LT.lt Nat _ no nn) (hcc : @LT.lt Nat _ nn cc)
    (d1 : o1.data = .cell (some (.ref nr))) (d3 : o3.data = .cell (some (.int base9 tb))) (d4 : o4.data = .cell (some (.ref no))) (d5 : o5.data = .cell (some (.ref nn))) (hi : IntsAre rv rl) (hl : rl.length = 29) (hrb : ∀ r ∈ rl, 0 ≤ r ∧ r < 5184) (hov : IntsAre ov o) (hop : o.Perm (upTo size.toNat)) (hiv : iv.map Prod.fst = o.map (fun x => base9 + x))
    (hcv : StrsAre cv ((cards2 size base9 rl).map fun l => ⟨l.toArray⟩)) (d6 : o6.data = .cell (some (.ref nc))) (hst : m (Str.ofString "stretches") = some (.bool st)) (hnc : @LT.lt Nat _ cc nc) (eoc : oc.data = .fields cvs) (ecv : cvs[1]? = some (.str (Str.ofString "_law_reader.<locals>.<lambda>") tq)) (hof : TailOff 167 tail) (d2 : o2.data = .cell none) (d7 : o7.data = .cell z7) (d8 : o8.data = .cell none)
    (N : News h₀ L s.heap ((nc, listOf cv.toArray ck) :: (nn, listOf (ivals iv).toArray nk) :: (no, listOf ov.toArray ok) :: (nr, listOf rv.toArray rn) :: (L + 1 + 1 + 1 + 1 + 1 + 1 + 1 + 1, o8) :: (L + 1 + 1 + 1 + 1 + 1 + 1 + 1, o7) :: (L + 1 + 1 + 1 + 1 + 1 + 1, o6) :: (L + 1 + 1 + 1 + 1 + 1, o5) :: (L + 1 + 1 + 1 + 1, o4) :: (L + 1 + 1 + 1, o3) :: (L + 1 + 1, o2) :: (L + 1, o1) :: (167, tabObj #[rawInt 187, rawInt 18, .ref cc]) :: (cc, oc) :: tail))
    (htk : ∀ k one two : Nat, 2 ≤ k → k ≤ 5 → one < k → two < k → two ≠ one → TakenOk (k : Int) (one : Int) (two : Int) (iv.map Prod.fst) (tkR (k : Int) (one : Int) (two : Int) (iv.map Prod.fst)))
    (hfin : (!(takAll (iv.map Prod.fst) (size.toNat - 2)).any fun b => b == false) = st)
    (fin : ∀ (m' : Str → Option Value) h' gs tk, Fr h₀ L h' m' → News h₀ L h' ((167, tabObj #[rawInt 187, rawInt 18, .ref cc]) :: []) → Q (.ret (.bool true)) { s with heap := h', gens := gs, toks := tk }) :
    wpAny (model rw_sn0078_01.row.prog w) (ktrTop dp un gd (Str.ofString "law") sc L f cdv (cellsFrom (L + 1) sc.names []) outer) (execs b (envOfC (Str.ofString "law") sc L f cdv)) Q E s := by
  revert X; k_fill; intro X
  have h2 : scAt 71 = some _ := rfl
  have e2 := hsc.symm.trans h2
  clear hsc h2
  injection e2 with e2
  subst e2
  have h1 : (defBody 71).drop 13 = _ := rfl
  have e1 := hb.symm.trans h1
  clear hb h1
  subst e1
  have hom := upTo_mem hop
  have hol : o.length = size.toNat := hop.length_eq.trans (upTo_len _)
  have hnl : (iv.map Prod.fst).length ≤ 6 := by rw [hiv, List.length_map]; omega
  have hnb : ∀ n ∈ iv.map Prod.fst, 0 ≤ n ∧ n ≤ 300 := by
    rw [hiv]
    intro n hn
    obtain ⟨x, hx, rfl⟩ := List.mem_map.mp hn
    have := hom x hx
    omega
  have hivi := ivals_ints iv
  (show let A' := _; wpAny _ A' _ _ _ _); intro A'
  k_steps
  rename_i ta hO lO hO2 FO NO hX tX tt1 tu1 tv1 hR FR NR eR
  refine' forRange (size.toNat - 2) (TkJ L ta nc nn no nr cc cv ov rv iv ck nk ok rn o1 o3 o4 o5 o6 o7 oc tail (iv.map Prod.fst) size ts st) ?hh (by k_asm) (by k_asm) hR ?hs ?hn ⟨[], 0, _, _, _, _, rfl, d2, d8, rfl, by simp, ?m1, ?m2, ?m3⟩ ?adr ?turn ?done ?ht
  case hh => exact rfl
  case hs => exact small_one (by omega) (by omega) (by omega) (by omega)
  case hn => rw [rangeSize_nat]; omega
  case ht => exact fun _ _ => rfl
  case m1 => exact if_pos rfl
  case m2 => exact (if_neg (by decide)).trans hm
  case m3 => exact (if_neg (by decide)).trans hst
  case adr =>
    rintro i m nx ⟨bs, bk, x2, x8, z2, z8, rfl, _⟩ p hp
    have hp' := List.mem_map_of_mem (f := Prod.fst) hp
    exact List.mem_map.mp hp'
  case turn =>
    rintro i t m₂ nx hh gs tkk I oI hi9 ⟨bs, bk, x2, x8, z2, z8, rfl, hx2, hx8, hbs, hbl, hm1, hm2, hm3⟩ hI F' N' Q' hQ E₁ E₂
    k_lt hI
    have hkk : (2 : Int) + (i : Int) = ((2 + i : Nat) : Int) := by omega
    rw [hkk]
    refine wpAny_assign_Name ?_
    k_steps
    rename_i hR5 FR5 NR5 eR5
    obtain ⟨y2, NRb, dy2⟩ : ∃ z : Obj, News _ L _ ((I, oI) :: (ta, listOf (bs.map Value.bool).toArray bk) :: (nc, listOf cv.toArray ck) :: (nn, listOf (ivals iv).toArray nk) :: (no, listOf ov.toArray ok) :: (nr, listOf rv.toArray rn) :: (L + 1 + 1 + 1 + 1 + 1 + 1 + 1 + 1, x8) :: (L + 1 + 1 + 1 + 1 + 1 + 1 + 1, o7) :: (L + 1 + 1 + 1 + 1 + 1 + 1, o6) :: (L + 1 + 1 + 1 + 1 + 1, o5) :: (L + 1 + 1 + 1 + 1, o4) :: (L + 1 + 1 + 1, o3) :: (L + 1 + 1, z) :: (L + 1, o1) :: (167, tabObj #[rawInt 187, rawInt 18, .ref cc]) :: (cc, oc) :: tail) ∧ z.data = .cell (some (.int ((2 + i : Nat) : Int) t)) := ⟨_, NR5, by assumption⟩
    clear NR5
    refine' forRange (2 + i) (TkJ2 I oI L ta nc nn no nr cc cv ov rv iv ck nk ok rn o1 y2 o3 o4 o5 o6 o7 oc tail (iv.map Prod.fst) size ts st i) ?hh2 (by k_asm) (by k_asm) hR5 ?hs2 ?hn2 ⟨bs, bk, _, _, rfl, hx8, by simp [takK, hbs], by omega, hm1, hm2, hm3⟩ ?adr2 ?turn2 ?done2 ?ht2
    case hh2 => exact rfl
    case hs2 => exact small_one (by omega) (by omega) (by omega) (by omega)
    case hn2 => rw [rangeSize_nat]; omega
    case ht2 => exact fun _ _ => rfl
    case adr2 =>
      rintro j m nx ⟨bs, bk, x8, z8, rfl, _⟩ p hp
      have hp' := List.mem_map_of_mem (f := Prod.fst) hp
      exact List.mem_map.mp hp'
    case turn2 =>
      rintro j tj m₃ nx hh gs tkk I2 oI2 hj9 ⟨bs, bk, x8, z8, rfl, hx8, hbs, hbl, hm1, hm2, hm3⟩ hI2 F' N' Q' hQ E₁ E₂
      k_lt hI2
      have hjj : (0 : Int) + (j : Int) = (j : Int) := Int.zero_add _
      rw [hjj]
      refine wpAny_assign_Name ?_
      k_steps
      rename_i hR6 FR6 NR6 eR6
      obtain ⟨y8, NRc, dy8⟩ : ∃ z : Obj, News _ L _ ((I2, oI2) :: (I, oI) :: (ta, listOf (bs.map Value.bool).toArray bk) :: (nc, listOf cv.toArray ck) :: (nn, listOf (ivals iv).toArray nk) :: (no, listOf ov.toArray ok) :: (nr, listOf rv.toArray rn) :: (L + 1 + 1 + 1 + 1 + 1 + 1 + 1 + 1, z) :: (L + 1 + 1 + 1 + 1 + 1 + 1 + 1, o7) :: (L + 1 + 1 + 1 + 1 + 1 + 1, o6) :: (L + 1 + 1 + 1 + 1 + 1, o5) :: (L + 1 + 1 + 1 + 1, o4) :: (L + 1 + 1 + 1, o3) :: (L + 1 + 1, y2) :: (L + 1, o1) :: (167, tabObj #[rawInt 187, rawInt 18, .ref cc]) :: (cc, oc) :: tail) ∧ z.data = .cell (some (.int (j : Int) tj)) := ⟨_, NR6, by assumption⟩
      clear NR6
      refine' compRangeC (2 + i) (fun t ys => ys = (rowP (iv.map Prod.fst) (2 + i) j t).map Value.bool) ?hh3 (by k_asm) (by k_asm) hR6 ?hs3 ?hn3 ?hz3 rfl ?hlen3 ?turn3 ?done3
      case hh3 => exact rfl
      case hs3 => exact small_one (by omega) (by omega) (by omega) (by omega)
      case hn3 => rw [rangeSize_nat]; omega
      case hz3 => rw [sizeLine_eq]; omega
      case hlen3 =>
        rintro t ys rfl
        rw [List.length_map]; exact rowP_len _ _ _ _
      case turn3 =>
        rintro t9 tt ys D C I3 nD oC o' hh gs tkk mC ht9 rfl hI3 hID hDC hC hmC F' N' Q' hQ E₁ E₂
        k_lt hI3
        have htt : (0 : Int) + (t9 : Int) = (t9 : Int) := Int.zero_add _
        rw [htt] at hmC
        refine wpAny_tests_one ?_
        k_steps
        · have hne : t9 ≠ j := (by have h9 := (by assumption : (t9 : Int) ≠ (j : Int)); omega)
          unfold Stop
          refine' g_taken (s := ⟨hh, gs, s.drawn, tkk, s.os⟩) F' N' (by k_mem) ⟨hivi, by omega, by omega, by omega, by omega, by omega, by omega, hnl, hnb, htk (2 + i) j t9 (by omega) (by omega) hj9 ht9 hne⟩ B X T ?xe ?xf ?xg ?_
          case xe => exact rfl
          case xf => omega
          case xg => omega
          intro h8 gs8 tk8 F8 N8
          exact hQ.next _ _ _ _ F8 N8 (by rw [rowP_yes hne, List.map_append]; rfl)
        · have heq : t9 = j := (by have h9 := (by assumption : (t9 : Int) = (j : Int)); omega)
          exact hQ.next _ _ _ _ (by assumption) (by assumption) (by rw [rowP_no heq])
      case done3 =>
        rintro D nD ys hh gs tkk rfl hD F' N'
        have hrl := rowP_len (iv.map Prod.fst) (2 + i) j (2 + i)
        have hrp := rowP_pos (iv.map Prod.fst) (k := 2 + i) (one := j) (by omega)
        k_lt hD
        (try k_unmd)
        k_steps
        exact hQ.next _ _ _ _ _ (by assumption) (news_sub (by assumption) (by first | ((repeat' (first | exact sub_self _ | with_reducible refine sub_cons ?_ | refine sub_cons ?_ | refine sub_skip ?_)); done) | (simp only [List.cons_append, List.nil_append, List.forall_mem_cons]; exact ⟨by k_mem, by k_mem, by k_mem, by k_mem, by k_mem, by k_mem, by k_mem, by k_mem, by k_mem, by k_mem, by k_mem, by k_mem, by k_mem, by k_mem, by k_mem, by k_mem, by k_mem, fun p hp => by repeat (first | assumption | refine List.mem_cons_of_mem _ ?_)⟩))) ⟨_, _, _, _, rfl, dy8, (by rw [hbs, takK, List.append_assoc]), (by rw [List.length_append]; omega), hm1, hm2, hm3⟩
    case done2 =>
      rintro m₃ nx hh gs tkk ⟨bs, bk, x8, z8, rfl, hx8, hbs, hbl, hm1, hm2, hm3⟩ F' N'
      (try k_unmd)
      k_steps
      exact hQ.next _ _ _ _ _ (by assumption) (news_sub (by assumption) (by first | ((repeat' (first | exact sub_self _ | with_reducible refine sub_cons ?_ | refine sub_cons ?_ | refine sub_skip ?_)); done) | (simp only [List.cons_append, List.nil_append, List.forall_mem_cons]; exact ⟨by k_mem, by k_mem, by k_mem, by k_mem, by k_mem, by k_mem, by k_mem, by k_mem, by k_mem, by k_mem, by k_mem, by k_mem, by k_mem, by k_mem, by k_mem, by k_mem, fun p hp => by repeat (first | assumption | refine List.mem_cons_of_mem _ ?_)⟩))) ⟨_, _, _, _, _, _, rfl, dy2, hx8, hbs, by omega, hm1, hm2, hm3⟩
  case done =>
    rintro m₂ nx hh gs tkk ⟨bs, bk, x2, x8, z2, z8, rfl, hx2, hx8, hbs, hbl, hm1, hm2, hm3⟩ F' N'
    dsimp only
    k_steps
    have e : ((!bs.any fun b => b == false) == st) = true := by rw [hbs, hfin]; simp
    rw [e]
    exact fin _ _ _ _ (by assumption) (news_sub (by assumption) (by first | ((repeat' (first | exact sub_self _ | with_reducible refine sub_cons ?_ | refine sub_cons ?_ | refine sub_skip ?_)); done) | (simp only [List.forall_mem_cons]; exact ⟨by k_mem, fun _ h => nomatch h⟩)))
theorem rz_PlT : True := by k_with_none; trivial
local macro_rules | `(tactic| omega) => `(tactic| omega (config := {}))
noncomputable def Mark (l : List Nat) : Prop := l = [] ∨ l = [40] ∨ l = [41] ∨ l = [92, 40] ∨ l = [92, 41]
theorem cg_shift : ∀ (cs : List Nat) (b : Bool) (i j : Nat) (n : Int), checkGo (escI i b cs) n = checkGo (escI j b cs) n
  | [], true, i, j, n => rfl
  | [], false, i, j, n => rfl
  | c :: cs, true, i, j, n => by
    show checkGo ((_, _) :: _) n = checkGo ((_, _) :: _) n
    unfold checkGo
    simp only [cg_shift cs false (i + 1) (j + 1)]
  | c :: cs, false, i, j, n => by
    unfold escI
    split
    · exact cg_shift cs true (i + 1) (j + 1) n
    · unfold checkGo
      simp only [cg_shift cs false (i + 1) (j + 1)]
noncomputable def cg (cs : List Nat) (n : Int) : Bool := checkGo (escI 0 false cs) n
theorem cg_open (cs : List Nat) (n : Int) : cg (40 :: cs) n = cg cs (n + 1) := by
  unfold cg
  rw [cg_shift cs false 0 1]
  rfl
theorem cg_close (cs : List Nat) (n : Int) : cg (41 :: cs) n = if n - 1 < 0 then false else cg cs (n - 1) := by
  unfold cg
  rw [cg_shift cs false 0 1]
  rfl
theorem cg_esc (c : Nat) (cs : List Nat) (n : Int) : cg (92 :: c :: cs) n = cg cs n := by
  unfold cg
  rw [cg_shift cs false 0 2]
  have e : escI 0 false (92 :: c :: cs) = (((1 : Nat) : Int), [92] ++ [c]) :: escI 2 false cs := rfl
  have key : ∀ (x : Int × List Nat) (r : List (Int × List Nat)), x.2 ≠ [40] → x.2 ≠ [41] → checkGo (x :: r) n = checkGo r n := by
    intro x r h1 h2
    show (if x.2 = [40] then _ else if x.2 = [41] then _ else _) = _
    rw [if_neg h1, if_neg h2]
  rw [e]
  exact key _ _ (by simp) (by simp)
theorem cnt1_cons (c : Nat) (l : List Nat) (ms : List (List Nat)) : cnt1 c (l :: ms) = (if l = [c] then 1 else 0) + cnt1 c ms := by
  unfold cnt1
  by_cases h : l = [c]
  · rw [if_pos h, List.filter_cons_of_pos (by simp [h]), List.length_cons]; omega
  · rw [if_neg h, List.filter_cons_of_neg (by simp [h])]; omega
theorem ahead_zero (ms : List (List Nat)) : aheadOf ms 0 = 0 := rfl
theorem ahead_cons (l : List Nat) (ms : List (List Nat)) (m : Nat) : aheadOf (l :: ms) (m + 1) = (if l = [41] then 1 else 0) - (if l = [40] then 1 else 0) + aheadOf ms m := by
  unfold aheadOf
  rw [List.take_succ_cons, cnt1_cons, cnt1_cons]
  omega
noncomputable def Below2 (ms : List (List Nat)) (n : Int) : Prop := ∀ m, m ≤ ms.length → aheadOf ms m ≤ n
theorem below_cons (l : List Nat) (ms : List (List Nat)) (n : Int) (h0 : 0 ≤ n) : Below2 (l :: ms) n ↔ Below2 ms (n - ((if l = [41] then 1 else 0) - (if l = [40] then 1 else 0))) := by
  constructor
  · intro h m hm
    have := h (m + 1) (by simp; omega)
    rw [ahead_cons] at this
    omega
  · intro h m hm
    cases m with
    | zero => rw [ahead_zero]; exact h0
    | succ m =>
      have := h m (by simp at hm; omega)
      rw [ahead_cons]
      omega
theorem cg_marks : ∀ (ms : List (List Nat)) (rest : List Nat) (n : Int), (∀ l ∈ ms, Mark l) → 0 ≤ n → ((Below2 ms n → cg (ms.flatten ++ rest) n = cg rest (n + cnt1 40 ms - cnt1 41 ms)) ∧ (¬ Below2 ms n → cg (ms.flatten ++ rest) n = false))
  | [], rest, n, _, h0 => by
    refine ⟨fun _ => by simp [cnt1], fun h => absurd ?_ h⟩
    intro m hm
    have : m = 0 := by simpa using hm
    subst this
    rw [ahead_zero]; exact h0
  | l :: ms, rest, n, hm, h0 => by
    have hms : ∀ l ∈ ms, Mark l := fun x hx => hm x (.tail _ hx)
    rw [below_cons l ms n h0, cnt1_cons, cnt1_cons, List.flatten_cons, List.append_assoc]
    rcases hm l (.head _) with rfl | rfl | rfl | rfl | rfl
    · have ih := cg_marks ms rest n hms h0
      simpa using ih
    · have ih := cg_marks ms rest (n + 1) hms (by omega)
      show (_ → cg (40 :: (ms.flatten ++ rest)) n = _) ∧ (_ → cg (40 :: (ms.flatten ++ rest)) n = _)
      rw [cg_open]
      have e : (n - ((if ([40] : List Nat) = [41] then 1 else 0) - (if ([40] : List Nat) = [40] then 1 else 0)) : Int) = n + 1 := by simp
      rw [e]
      refine ⟨fun h => ?_, ih.2⟩
      rw [ih.1 h]
      congr 1
      simp
      omega
    · show (_ → cg (41 :: (ms.flatten ++ rest)) n = _) ∧ (_ → cg (41 :: (ms.flatten ++ rest)) n = _)
      rw [cg_close]
      have e : (n - ((if ([41] : List Nat) = [41] then 1 else 0) - (if ([41] : List Nat) = [40] then 1 else 0)) : Int) = n - 1 := by simp
      rw [e]
      by_cases hn : n - 1 < 0
      · rw [if_pos hn]
        refine ⟨fun h => ?_, fun _ => rfl⟩
        have := h 0 (Nat.zero_le _)
        rw [ahead_zero] at this
        omega
      · rw [if_neg hn]
        have ih := cg_marks ms rest (n - 1) hms (by omega)
        refine ⟨fun h => ?_, ih.2⟩
        rw [ih.1 h]
        congr 1
        simp
        omega
    · have ih := cg_marks ms rest n hms h0
      show (_ → cg (92 :: 40 :: (ms.flatten ++ rest)) n = _) ∧ (_ → cg (92 :: 40 :: (ms.flatten ++ rest)) n = _)
      rw [cg_esc]
      simpa using ih
    · have ih := cg_marks ms rest n hms h0
      show (_ → cg (92 :: 41 :: (ms.flatten ++ rest)) n = _) ∧ (_ → cg (92 :: 41 :: (ms.flatten ++ rest)) n = _)
      rw [cg_esc]
      simpa using ih
theorem cg_ends : ∀ (e : Nat) (n : Int), 0 ≤ n → cg (List.replicate e 41) n = decide (n = (e : Int))
  | 0, n, _ => rfl
  | e + 1, n, h0 => by
    rw [List.replicate_succ, cg_close]
    by_cases hn : n - 1 < 0
    · rw [if_pos hn]; symm; exact decide_eq_false (by omega)
    · rw [if_neg hn, cg_ends e (n - 1) (by omega)]
      exact decide_eq_decide.mpr (by omega)
theorem strip_plain {cps : List Nat} (h : 34 ∉ cps) : stripOf cps = cps := by
  unfold stripOf
  rw [if_neg h]
theorem esc_no34 : ∀ (cs : List Nat) (i : Nat) (b : Bool), 34 ∉ cs → ∀ x ∈ escI i b cs, x.2 ≠ [34]
  | [], _, true, _, x, hx => by
    have : x = _ := List.mem_singleton.mp hx
    subst this; simp
  | [], _, false, _, x, hx => by cases hx
  | c :: cs, i, true, h, x, hx => by
    rcases List.mem_cons.mp hx with rfl | hx
    · simp
    · exact esc_no34 cs _ _ (fun q => h (.tail _ q)) x hx
  | c :: cs, i, false, h, x, hx => by
    unfold escI at hx
    split at hx
    · exact esc_no34 cs _ _ (fun q => h (.tail _ q)) x hx
    · rcases List.mem_cons.mp hx with rfl | hx
      · intro q
        injection q with q
        exact h (q ▸ .head _)
      · exact esc_no34 cs _ _ (fun q => h (.tail _ q)) x hx
theorem stripGo_none (cps : List Nat) : ∀ (r : List (Int × List Nat)) (st : Int) (res : List (List Nat)), (∀ x ∈ r, x.2 ≠ [34]) → stripGo cps r st none res = (st, res)
  | [], _, _, _ => rfl
  | x :: r, st, res, h => by
    unfold stripGo
    rw [if_neg (h x (.head _))]
    exact stripGo_none cps r st res fun y hy => h y (.tail _ hy)
theorem strip_lead {rest : List Nat} (h : 34 ∉ rest) (h1 : 0 < rest.length) : stripOf ([34, 41, 34] ++ rest) = rest := by
  unfold stripOf
  rw [if_pos (by simp)]
  have e : escI 0 false ([34, 41, 34] ++ rest) = (0, [34]) :: (1, [41]) :: (2, [34]) :: escI 3 false rest := rfl
  have e2 : stripGo ([34, 41, 34] ++ rest) (escI 0 false ([34, 41, 34] ++ rest)) 0 none [] = (3, []) := by
    rw [e]
    show stripGo _ (escI 3 false rest) 3 none [] = _
    exact stripGo_none _ _ _ _ (esc_no34 rest 3 false h)
  rw [e2]
  show (if (3 : Int) < _ then _ else _ : List (List Nat)).flatten = rest
  rw [if_pos (by simp; omega)]
  simp
theorem face_mark {k one two : Int} (r : Nat) : Mark ((facesP k one two).getD r []) := by
  have h1 : ∀ l ∈ facesL k, Mark l := by
    intro l hl
    obtain ⟨r, _, rfl⟩ := List.mem_map.mp hl
    unfold faceAt
    split
    · have := fmod_lt k (k := 2) (by decide)
      have h2 : (k.fmod 2).toNat = 0 ∨ (k.fmod 2).toNat = 1 := by omega
      rcases h2 with h2 | h2 <;> rw [h2]
      · exact .inr (.inr (.inr (.inl rfl)))
      · exact .inr (.inr (.inr (.inr rfl)))
    · exact .inl rfl
  have h2 : ∀ l ∈ facesP k one two, Mark l := by
    intro l hl
    unfold facesP at hl
    rcases List.mem_or_eq_of_mem_set hl with h | rfl
    · rcases List.mem_or_eq_of_mem_set h with h | rfl
      · exact h1 _ h
      · exact .inr (.inl rfl)
    · exact .inr (.inr (.inl rfl))
  by_cases hi : r < (facesP k one two).length
  · exact h2 _ (getD_mem hi)
  · rw [List.getD_eq_getElem?_getD, List.getElem?_eq_none (by omega)]; exact .inl rfl
theorem marks_mark {k one two : Int} {ns : List Int} : ∀ l ∈ marksOf k one two ns, Mark l := by
  intro l hl
  obtain ⟨n, _, rfl⟩ := List.mem_map.mp hl
  exact face_mark _
theorem row_no34 {k one two : Int} {ns : List Int} {op : List Nat} (e : Nat) (hop : 34 ∉ op) : 34 ∉ op ++ (marksOf k one two ns).flatten ++ List.replicate e 41 := by
  intro h
  rcases List.mem_append.mp h with h | h
  · rcases List.mem_append.mp h with h | h
    · exact hop h
    · obtain ⟨l, hl, hx⟩ := List.mem_flatten.mp h
      rcases marks_mark l hl with rfl | rfl | rfl | rfl | rfl <;> simp at hx
  · exact absurd (List.eq_of_mem_replicate h) (by decide)
theorem check_row {k one two : Int} {ns : List Int} {op : List Nat} (hop : 34 ∉ op) (hp : 0 < op.length) : checkOf (rowTxt op k one two ns) = cg (op ++ (marksOf k one two ns).flatten ++ List.replicate (1 + cnt1 40 (marksOf k one two ns) - cnt1 41 (marksOf k one two ns)).toNat 41) 0 := by
  have h34 := row_no34 (k := k) (one := one) (two := two) (ns := ns) (1 + cnt1 40 (marksOf k one two ns) - cnt1 41 (marksOf k one two ns)).toNat hop
  unfold rowTxt checkOf cg
  congr 2
  unfold leadOf
  split
  · rw [List.append_assoc, List.append_assoc, ← List.append_assoc op]
    exact strip_lead h34 (by simp; omega)
  · rw [List.nil_append, strip_plain h34]
theorem tk_below {k one two : Int} {ns : List Int} : tkR k one two ns = true ↔ Below2 (marksOf k one two ns) 1 := by
  unfold tkR aheads
  rw [List.all_map, List.all_eq_true]
  constructor
  · intro h m hm
    have := h m (List.mem_range.mpr (by omega))
    have := of_decide_eq_true this
    omega
  · intro h m hm
    have := h m (by have := List.mem_range.mp hm; omega)
    exact decide_eq_true (by omega)
theorem taken_ok {k one two : Int} {ns : List Int} : TakenOk k one two ns (tkR k one two ns) := by
  have hM := marks_mark (k := k) (one := one) (two := two) (ns := ns)
  refine ⟨?_, fun M hm hM => ?_, fun ht _ => ?_⟩
  · rw [check_row (by decide) (by decide)]
    show cg (40 :: ((marksOf k one two ns).flatten ++ _)) 0 = _
    rw [cg_open]
    have h := cg_marks (marksOf k one two ns) (List.replicate (1 + cnt1 40 (marksOf k one two ns) - cnt1 41 (marksOf k one two ns)).toNat 41) (0 + 1) hM (by decide)
    cases ht : tkR k one two ns with
    | true =>
      have hb := tk_below.mp ht
      have hl := hb _ (Nat.le_refl _)
      unfold aheadOf at hl
      rw [List.take_length] at hl
      rw [h.1 hb, cg_ends _ _ (by omega)]
      exact decide_eq_true (by omega)
    | false => exact h.2 fun hb => by rw [tk_below.mpr hb] at ht; cases ht
  · unfold tkR
    rw [Bool.eq_iff_iff, List.all_eq_true]
    constructor
    · intro h a ha
      have h1 := of_decide_eq_true h
      have h2 := hM a ha
      exact decide_eq_true (by omega)
    · intro h
      exact h M hm
  · rw [check_row (by decide) (by decide)]
    show cg (40 :: 40 :: ((marksOf k one two ns).flatten ++ _)) 0 = _
    rw [cg_open, cg_open]
    have hb := tk_below.mp ht
    have h := cg_marks (marksOf k one two ns) (List.replicate (1 + cnt1 40 (marksOf k one two ns) - cnt1 41 (marksOf k one two ns)).toNat 41) (0 + 1 + 1) hM (by decide)
    have hl := hb _ (Nat.le_refl _)
    unfold aheadOf at hl
    rw [List.take_length] at hl
    rw [h.1 fun m hm => Int.le_trans (hb m hm) (by decide), cg_ends _ _ (by omega)]
    exact decide_eq_false (by omega)
noncomputable def cntR (p : List Int) (k r : Int) : Int := ((p.filter fun y => decide (y.fmod k = r)).length : Int)
theorem face_at {k one two : Int} {r : Nat} (h1 : 0 ≤ one) (h2 : 0 ≤ two) (hr : (r : Int) < k) : (facesP k one two).getD r [] = if (r : Int) = two then [41] else if (r : Int) = one then [40] else faceAt k r := by
  have hl : r < (facesL k).length := by simp [facesL]; omega
  unfold facesP
  rw [List.getD_eq_getElem?_getD, List.getElem?_set, List.getElem?_set]
  by_cases e2 : (r : Int) = two
  · rw [if_pos e2, if_pos (show two.toNat = r by omega), if_pos (by simpa using (show two.toNat < (facesL k).length by omega))]; rfl
  · rw [if_neg e2, if_neg (show ¬ two.toNat = r by omega)]
    by_cases e1 : (r : Int) = one
    · rw [if_pos e1, if_pos (show one.toNat = r by omega), if_pos (show one.toNat < (facesL k).length by omega)]; rfl
    · rw [if_neg e1, if_neg (show ¬ one.toNat = r by omega), List.getElem?_eq_getElem hl]
      simp [facesL]
theorem faceAt_ne (k : Int) (r c : Nat) : faceAt k r ≠ [c] := by
  unfold faceAt
  split <;> simp
theorem cnt_close {k one two : Int} (hk : 0 < k) (h1 : 0 ≤ one) (h2 : 0 ≤ two) (hne : two ≠ one) (ns : List Int) : cnt1 41 (marksOf k one two ns) = cntR ns k two := by
  unfold cnt1 cntR marksOf
  rw [List.filter_map, List.length_map]
  congr 2
  refine List.filter_congr fun n _ => ?_
  have hm := fmod_lt n hk
  show decide ((facesP k one two).getD (n.fmod k).toNat [] = [41]) = _
  rw [face_at h1 h2 (by omega)]
  have e : (((n.fmod k).toNat : Nat) : Int) = n.fmod k := by omega
  rw [e]
  by_cases q : n.fmod k = two
  · rw [if_pos q]; simp [q]
  · rw [if_neg q]
    by_cases q1 : n.fmod k = one
    · rw [if_pos q1]; simp [q]
    · rw [if_neg q1]; simp [q, faceAt_ne]
theorem cnt_open {k one two : Int} (hk : 0 < k) (h1 : 0 ≤ one) (h2 : 0 ≤ two) (hne : two ≠ one) (ns : List Int) : cnt1 40 (marksOf k one two ns) = cntR ns k one := by
  unfold cnt1 cntR marksOf
  rw [List.filter_map, List.length_map]
  congr 2
  refine List.filter_congr fun n _ => ?_
  have hm := fmod_lt n hk
  show decide ((facesP k one two).getD (n.fmod k).toNat [] = [40]) = _
  rw [face_at h1 h2 (by omega)]
  have e : (((n.fmod k).toNat : Nat) : Int) = n.fmod k := by omega
  rw [e]
  by_cases q : n.fmod k = two
  · rw [if_pos q]
    have : ¬ n.fmod k = one := fun z => hne (q ▸ z)
    simp [this]
  · rw [if_neg q]
    by_cases q1 : n.fmod k = one
    · rw [if_pos q1]; simp [q1]
    · rw [if_neg q1]; simp [q1, faceAt_ne]
theorem ahead_is {k one two : Int} (hk : 0 < k) (h1 : 0 ≤ one) (h2 : 0 ≤ two) (hne : two ≠ one) (ns : List Int) (m : Nat) : aheadOf (marksOf k one two ns) m = cntR (ns.take m) k two - cntR (ns.take m) k one := by
  unfold aheadOf
  have e : (marksOf k one two ns).take m = marksOf k one two (ns.take m) := by unfold marksOf; rw [List.map_take]
  rw [e, cnt_close hk h1 h2 hne, cnt_open hk h1 h2 hne]
theorem tkR_iff {k one two : Int} (hk : 0 < k) (h1 : 0 ≤ one) (h2 : 0 ≤ two) (hne : two ≠ one) (ns : List Int) : tkR k one two ns = true ↔ ∀ m, m ≤ ns.length → cntR (ns.take m) k two - cntR (ns.take m) k one ≤ 1 := by
  rw [tk_below]
  unfold Below2
  have hl : (marksOf k one two ns).length = ns.length := by simp [marksOf]
  rw [hl]
  exact forall_congr' fun m => by rw [ahead_is hk h1 h2 hne]
theorem fmod_shift {k : Int} (hk : 0 < k) (b y r : Int) (h0 : 0 ≤ r) (h1 : r < k) : (b + y).fmod k = r ↔ y.fmod k = (r - b).fmod k := by
  rw [Int.fmod_eq_emod_of_nonneg _ (Int.le_of_lt hk), Int.fmod_eq_emod_of_nonneg _ (Int.le_of_lt hk), Int.fmod_eq_emod_of_nonneg _ (Int.le_of_lt hk)]
  constructor
  · intro h
    rw [← h, Int.sub_eq_add_neg, Int.emod_add_emod]
    congr 1
    omega
  · intro h
    have e : (b + y) % k = (b + y % k) % k := by rw [Int.add_emod_emod]
    rw [e, h, Int.add_emod_emod]
    have e2 : b + (r - b) = r := by omega
    rw [e2]
    exact Int.emod_eq_of_lt h0 h1
theorem cntR_shift {k : Int} (hk : 0 < k) (b r : Int) (h0 : 0 ≤ r) (h1 : r < k) (p : List Int) : cntR (p.map fun y => b + y) k r = cntR p k ((r - b).fmod k) := by
  unfold cntR
  rw [List.filter_map, List.length_map]
  congr 2
  refine List.filter_congr fun y _ => ?_
  show decide ((b + y).fmod k = r) = _
  exact decide_eq_decide.mpr (fmod_shift hk b y r h0 h1)
theorem back {k : Int} (hk : 0 < k) (b r : Int) (h0 : 0 ≤ r) (h1 : r < k) : (((r + b).fmod k) - b).fmod k = r := by
  have h2 := fmod_lt (r + b) hk
  have := (fmod_shift hk b r ((r + b).fmod k) h2.1 h2.2).mp (by rw [Int.add_comm])
  rw [← this, Int.fmod_eq_emod_of_nonneg _ (Int.le_of_lt hk)]
  exact Int.emod_eq_of_lt h0 h1
noncomputable def okP (n : Nat) (p : List Int) : Prop := ∀ k one two : Nat, 2 ≤ k → k < n → one < k → two < k → two ≠ one → cntR p k two - cntR p k one ≤ 1
theorem tak_iff {n : Nat} (b : Int) (o : List Int) : (∀ k one two : Nat, 2 ≤ k → k < n → one < k → two < k → two ≠ one → tkR k one two (o.map fun x => b + x) = true) ↔ ∀ m, m ≤ o.length → okP n (o.take m) := by
  constructor
  · intro h m hm k one two hk hkn h1 h2 hne
    have hk0 : (0 : Int) < (k : Int) := Int.ofNat_lt.mpr (Nat.lt_of_lt_of_le (by decide) hk)
    have f1 := fmod_lt ((one : Int) + b) hk0
    have f2 := fmod_lt ((two : Int) + b) hk0
    have b1 := back hk0 b (one : Int) (Int.natCast_nonneg _) (Int.ofNat_lt.mpr h1)
    have b2 := back hk0 b (two : Int) (Int.natCast_nonneg _) (Int.ofNat_lt.mpr h2)
    have hne2 : ((two : Int) + b).fmod k ≠ ((one : Int) + b).fmod k := by
      intro e
      rw [e, b1] at b2
      exact hne (Int.ofNat_inj.mp b2.symm)
    have q := h k (((one : Int) + b).fmod k).toNat (((two : Int) + b).fmod k).toNat hk hkn ((Int.toNat_lt f1.1).mpr f1.2) ((Int.toNat_lt f2.1).mpr f2.2) (fun e => hne2 (toNat_in f2.1 f1.1 e))
    have c1 := Int.toNat_of_nonneg f1.1
    have c2 := Int.toNat_of_nonneg f2.1
    rw [c1, c2, tkR_iff hk0 f1.1 f2.1 hne2] at q
    have := q m (by rw [List.length_map]; exact hm)
    rw [← List.map_take, cntR_shift hk0 b _ f2.1 f2.2, cntR_shift hk0 b _ f1.1 f1.2, b1, b2] at this
    exact this
  · intro h k one two hk hkn h1 h2 hne
    have hk0 : (0 : Int) < (k : Int) := Int.ofNat_lt.mpr (Nat.lt_of_lt_of_le (by decide) hk)
    rw [tkR_iff hk0 (Int.natCast_nonneg _) (Int.natCast_nonneg _) (fun e => hne (Int.ofNat_inj.mp e))]
    intro m hm
    rw [List.length_map] at hm
    rw [← List.map_take, cntR_shift hk0 b _ (Int.natCast_nonneg _) (Int.ofNat_lt.mpr h2), cntR_shift hk0 b _ (Int.natCast_nonneg _) (Int.ofNat_lt.mpr h1)]
    have f1 := fmod_lt ((one : Int) - b) hk0
    have f2 := fmod_lt ((two : Int) - b) hk0
    by_cases e : (((two : Int) - b).fmod k).toNat = (((one : Int) - b).fmod k).toNat
    · have e' : ((two : Int) - b).fmod k = ((one : Int) - b).fmod k := toNat_in f2.1 f1.1 e
      rw [e']; omega
    · have q := h m hm k (((one : Int) - b).fmod k).toNat (((two : Int) - b).fmod k).toNat hk hkn ((Int.toNat_lt f1.1).mpr f1.2) ((Int.toNat_lt f2.1).mpr f2.2) e
      have c1 := Int.toNat_of_nonneg f1.1
      have c2 := Int.toNat_of_nonneg f2.1
      rw [c1, c2] at q
      exact q
noncomputable def subs : List Int → List (List Int)
  | [] => [[]]
  | a :: r => subs r ++ (subs r).map (a :: ·)
theorem filter_subs (q : Int → Bool) : ∀ l : List Int, l.filter q ∈ subs l
  | [] => .head _
  | a :: r => by
    have ih := filter_subs q r
    unfold subs
    by_cases h : q a = true
    · rw [List.filter_cons_of_pos h]
      exact List.mem_append_right _ (List.mem_map.mpr ⟨_, ih, rfl⟩)
    · rw [List.filter_cons_of_neg h]
      exact List.mem_append_left _ ih
noncomputable def okB (n : Nat) (p : List Int) : Bool := (List.range (n - 2)).all fun i => (List.range (2 + i)).all fun one => (List.range (2 + i)).all fun two => two == one || decide (cntR p (2 + i : Nat) two - cntR p (2 + i : Nat) one ≤ 1)
noncomputable def ivB (p : List Int) : Bool := decide (p = []) || decide (maxL p - minL p = (p.length : Int) - 1)
theorem all_subs : ([3, 4, 5, 6].all fun n => (subs (upTo n)).all fun p => okB n p == ivB p) = true := by decide +kernel
theorem okB_iff {n : Nat} {p : List Int} : okB n p = true ↔ okP n p := by
  unfold okB okP
  simp only [List.all_eq_true, List.mem_range, Bool.or_eq_true, beq_iff_eq, decide_eq_true_eq]
  constructor
  · intro h k one two hk hkn h1 h2 hne
    have := h (k - 2) (by omega) one (by omega) two (by omega)
    have e : 2 + (k - 2) = k := by omega
    rw [e] at this
    exact this.resolve_left hne
  · intro h i hi one h1 two h2
    by_cases e : two = one
    · exact .inl e
    · exact .inr (h (2 + i) one two (by omega) (by omega) h1 h2 e)
theorem cntR_perm {p q : List Int} (h : p.Perm q) (k r : Int) : cntR p k r = cntR q k r := by
  unfold cntR
  rw [(h.filter _).length_eq]
theorem okP_perm {p q : List Int} (h : p.Perm q) (n : Nat) : okP n p ↔ okP n q := by
  unfold okP
  simp only [cntR_perm h]
theorem maxL_perm {p q : List Int} (h : p.Perm q) : maxL p = maxL q := by
  by_cases hp : p = []
  · subst hp; rw [List.nil_perm.mp h]
  · have hq : q ≠ [] := fun e => hp (by subst e; exact List.perm_nil.mp h)
    obtain ⟨h1, h2⟩ := maxL_spec q hq
    exact maxL_eq (h.mem_iff.mpr h1) fun a ha => h2 a (h.mem_iff.mp ha)
theorem minL_perm {p q : List Int} (h : p.Perm q) : minL p = minL q := by
  by_cases hp : p = []
  · subst hp; rw [List.nil_perm.mp h]
  · have hq : q ≠ [] := fun e => hp (by subst e; exact List.perm_nil.mp h)
    obtain ⟨h1, h2⟩ := minL_spec q hq
    exact minL_eq (h.mem_iff.mpr h1) fun a ha => h2 a (h.mem_iff.mp ha)
theorem ivB_perm {p q : List Int} (h : p.Perm q) : ivB p = ivB q := by
  unfold ivB
  rw [maxL_perm h, minL_perm h, h.length_eq]
  congr 1
  exact decide_eq_decide.mpr ⟨fun e => by subst e; exact List.nil_perm.mp h |>.symm ▸ rfl, fun e => by subst e; exact List.perm_nil.mp h⟩
theorem upTo_nodup (n : Nat) : (upTo n).Nodup := by
  unfold upTo
  rw [List.Nodup, List.pairwise_map]
  exact List.nodup_range.imp fun h e => h (by omega)
theorem as_filter {p : List Int} {n : Nat} (hn : p.Nodup) (hm : ∀ x ∈ p, x ∈ upTo n) : p.Perm ((upTo n).filter fun x => decide (x ∈ p)) := by
  refine (List.perm_ext_iff_of_nodup hn ((upTo_nodup n).filter _)).mpr fun x => ?_
  rw [List.mem_filter]
  exact ⟨fun h => ⟨hm x h, decide_eq_true h⟩, fun h => of_decide_eq_true h.2⟩
theorem ok_iv {n : Nat} (h3 : 3 ≤ n) (h6 : n ≤ 6) {p : List Int} (hn : p.Nodup) (hm : ∀ x ∈ p, x ∈ upTo n) : okP n p ↔ ivB p = true := by
  have hp := as_filter hn hm
  rw [okP_perm hp, ivB_perm hp, ← okB_iff]
  have key := List.all_eq_true.mp all_subs n ((by decide : ∀ n, n < 7 → 3 ≤ n → n ∈ [3, 4, 5, 6]) n (Nat.lt_succ_of_le h6) h3)
  have := List.all_eq_true.mp key _ (filter_subs (fun x => decide (x ∈ p)) (upTo n))
  rw [beq_iff_eq.mp this]
theorem bad_iff {o : List Int} {n : Nat} (hl : o.length = n) : badAt o n = [] ↔ ∀ m, m ≤ n → ivB (o.take m) = true := by
  unfold badAt
  rw [List.map_eq_nil_iff, List.filter_eq_nil_iff]
  have key : ∀ i, i < n → (strOk o i = ivB (o.take (i + 1))) := by
    intro i hi
    have hlen : (o.take (i + 1)).length = i + 1 := by rw [List.length_take]; omega
    unfold strOk ivB
    have hne : o.take (i + 1) ≠ [] := fun e => by rw [e] at hlen; simp at hlen
    rw [decide_eq_false hne, Bool.false_or, hlen]
    exact decide_eq_decide.mpr (by omega)
  constructor
  · intro h m hm
    cases m with
    | zero => rfl
    | succ i =>
      have := h i (List.mem_range.mpr (by omega))
      rw [← key i (by omega)]
      simpa using this
  · intro h i hi
    have hi' := List.mem_range.mp hi
    rw [key i hi', h (i + 1) (by omega)]
    simp
theorem takK_false {ns : List Int} {k : Nat} : ∀ j, ((takK ns k j).any fun b => b == false) = false ↔ ∀ one two : Nat, one < j → two < k → two ≠ one → tkR k one two ns = true
  | 0 => by simp [takK]
  | j + 1 => by
    unfold takK
    rw [List.any_append, Bool.or_eq_false_iff, takK_false j]
    have hr : ((rowP ns k j k).any fun b => b == false) = false ↔ ∀ two : Nat, two < k → two ≠ j → tkR k j two ns = true := by
      unfold rowP
      rw [List.any_eq_false]
      constructor
      · intro h two h2 hne
        have := h _ (List.mem_map.mpr ⟨two, List.mem_filter.mpr ⟨List.mem_range.mpr h2, by simp [hne]⟩, rfl⟩)
        simpa using this
      · intro h b hb
        obtain ⟨two, h2, rfl⟩ := List.mem_map.mp hb
        obtain ⟨h3, h4⟩ := List.mem_filter.mp h2
        rw [h two (List.mem_range.mp h3) (by simpa using h4)]
        decide
    rw [hr]
    constructor
    · rintro ⟨h1, h2⟩ one two ho ht hne
      by_cases e : one = j
      · subst e; exact h2 two ht hne
      · exact h1 one two (by omega) ht hne
    · exact fun h => ⟨fun one two ho ht hne => h one two (by omega) ht hne, fun two ht hne => h j two (by omega) ht hne⟩
theorem takAll_false {ns : List Int} : ∀ N, ((takAll ns N).any fun b => b == false) = false ↔ ∀ k one two : Nat, 2 ≤ k → k < 2 + N → one < k → two < k → two ≠ one → tkR k one two ns = true
  | 0 => by
    simp only [takAll, List.any_nil, true_iff]
    intro k one two hk hk2
    omega
  | N + 1 => by
    unfold takAll
    rw [List.any_append, Bool.or_eq_false_iff, takAll_false N, takK_false]
    constructor
    · rintro ⟨h1, h2⟩ k one two hk hk2 ho ht hne
      by_cases e : k = 2 + N
      · subst e; exact h2 one two ho ht hne
      · exact h1 k one two hk (by omega) ho ht hne
    · exact fun h => ⟨fun k one two hk hk2 ho ht hne => h k one two hk (by omega) ho ht hne, fun one two ho ht hne => h (2 + N) one two (by omega) (by omega) ho ht hne⟩
theorem fin_ok {size : Int} (h3 : 3 ≤ size) (h6 : size ≤ 6) (b : Int) {o : List Int} (hp : o.Perm (upTo size.toNat)) : (!(takAll (o.map fun x => b + x) (size.toNat - 2)).any fun b => b == false) = decide (badAt o size.toNat = []) := by
  have hl : o.length = size.toNat := hp.length_eq.trans (upTo_len _)
  have hnd : o.Nodup := hp.nodup_iff.mpr (upTo_nodup _)
  have hn3 : 3 ≤ size.toNat := (Int.le_toNat (Int.le_trans (by decide) h3)).mpr h3
  have key : ((takAll (o.map fun x => b + x) (size.toNat - 2)).any fun b => b == false) = false ↔ badAt o size.toNat = [] := by
    rw [takAll_false, bad_iff hl, show 2 + (size.toNat - 2) = size.toNat from Nat.add_sub_cancel' (Nat.le_of_succ_le hn3), tak_iff b o, hl]
    refine forall_congr' fun m => forall_congr' fun hm => ?_
    exact ok_iv hn3 (Int.toNat_le.mpr h6) (hnd.sublist (List.take_sublist _ _)) fun x hx => hp.mem_iff.mp (List.mem_of_mem_take hx)
  by_cases h : badAt o size.toNat = []
  · rw [decide_eq_true h, key.mpr h]; rfl
  · rw [decide_eq_false h]
    cases q : (takAll (o.map fun x => b + x) (size.toNat - 2)).any fun b => b == false with
    | true => rfl
    | false => exact absurd (key.mp q) h
noncomputable def signsC : List (List Nat) := [[40], [41], [91], [93], [58], [44], [59], [43], [45], [42], [47], [124], [38], [60], [62], [61], [46], [37], [123],
  [125], [61, 61], [33, 61], [60, 61], [62, 61], [126], [94], [60, 60], [62, 62], [42, 42], [43, 61], [45, 61],
  [42, 61], [47, 61], [37, 61], [38, 61], [124, 61], [94, 61], [60, 60, 61], [62, 62, 61], [42, 42, 61], [47, 47],
  [47, 47, 61], [64], [64, 61], [45, 62], [46, 46, 46], [58, 61], [33]]
noncomputable def startsC : List Int := [97, 65, 119808, 119860, 119912, 120016, 120172, 120224, 120276, 120328, 120380, 120432]
noncomputable def unseenC : List Int := [173, 847, 6150, 6155, 6156, 6157, 8203, 8204, 8205, 8288, 65279, 65024, 65025, 65026, 65027, 65028, 65029, 65030, 65031, 65032, 65033, 65034, 65035, 65036, 65037, 65038, 65039]
theorem signs_lit : signsL = signsC := by decide +kernel
theorem starts_lit : startsL = startsC := by decide +kernel
theorem unseen_lit : unseenL = unseenC := by decide +kernel
noncomputable def punct : List Nat := [33, 37, 38, 40, 41, 42, 43, 44, 45, 46, 47, 58, 59, 60, 61, 62, 64, 91, 93, 94, 123, 124, 125, 126]
theorem b3_high : (b3List.all fun e => match e.key with | .int i _ => decide (126 < i) | _ => false) = true := by decide +kernel
noncomputable def capsC : List Int := startsC.drop 2
noncomputable def b3Run : List (Int × List Nat) := b3List.filterMap fun e => match e.key, e.val with
  | .int i _, .str v _ => if (capsC.any fun s => decide (s ≤ i) && decide (i < s + 13)) = true then some (i, v.cps.toList) else none
  | _, _ => none
theorem b3_run : b3Run = capsC.flatMap fun s => (List.range 13).map fun d : Nat => (s + (d : Int), [97 + d]) := by decide +kernel
theorem low_punct : (punct.all fun c => Txt.lower ⟨#[c]⟩ == ⟨#[c]⟩) = true := by decide +kernel
theorem low_letters : ((List.range 13).all fun d => Txt.lower ⟨#[97 + d]⟩ == ⟨#[97 + d]⟩ && Txt.lower ⟨#[65 + d]⟩ == ⟨#[97 + d]⟩) = true := by decide +kernel
theorem b3_none {c : Nat} (h : c ≤ 126) : b3find (c : Int) = none := by
  unfold b3find findBy
  rw [List.find?_toArray]
  have key : b3List.find? (fun e => Value.isInt (c : Int) e.key) = none := by
    rw [List.find?_eq_none]
    intro e he hq
    have h1 := List.all_eq_true.mp b3_high e he
    obtain ⟨i, t, s, u, e1, _, _⟩ := b3_is e (List.all_eq_true.mp b3_strs e he)
    rw [e1] at h1 hq
    have h2 : (126 : Int) < i := of_decide_eq_true h1
    have h3 : i = (c : Int) := of_decide_eq_true hq
    exact absurd (h3 ▸ h2) (by omega)
  rw [key]; rfl
theorem map_low {c : Nat} (h : c ≤ 126) : mapB3 c = Txt.lower ⟨#[c]⟩ := by
  unfold mapB3
  rw [b3_none h]
theorem caps_apart : ∀ a ∈ capsC, ∀ b ∈ capsC, a = b ∨ a + 13 ≤ b ∨ b + 13 ≤ a := by decide
theorem run_at {e : DictEntry} (he : e ∈ b3List) {i : Int} {t : Tok} {v : Str} {u : Tok} (e1 : e.key = .int i t) (e2 : e.val = .str v u)
    (h : (capsC.any fun s => decide (s ≤ i) && decide (i < s + 13)) = true) : (i, v.cps.toList) ∈ b3Run := by
  refine List.mem_filterMap.mpr ⟨e, he, ?_⟩
  rw [e1, e2]
  exact if_pos h
theorem b3_caps {s : Int} (hs : s ∈ capsC) {d : Nat} (hd : d < 13) (h0 : 0 ≤ s) : mapB3 (s.toNat + d) = ⟨#[97 + d]⟩ := by
  have hc : ((s.toNat + d : Nat) : Int) = s + (d : Int) := by rw [Int.natCast_add, Int.toNat_of_nonneg h0]
  have hin : (s + (d : Int), [97 + d]) ∈ b3Run := by
    rw [b3_run]
    exact List.mem_flatMap.mpr ⟨s, hs, List.mem_map.mpr ⟨d, List.mem_range.mpr hd, rfl⟩⟩
  obtain ⟨e, he, hq⟩ := List.mem_filterMap.mp hin
  obtain ⟨i, t, v, u, e1, e2, _⟩ := b3_is e (List.all_eq_true.mp b3_strs e he)
  rw [e1, e2] at hq
  obtain ⟨_, hq⟩ := Option.ite_none_right_eq_some.mp hq
  injection hq with hq
  injection hq with hq _
  have hs1 : Value.isInt (s + (d : Int)) e.key = true := by rw [e1, hq]; exact decide_eq_true rfl
  have hs2 : (b3List.find? fun e => Value.isInt (s + (d : Int)) e.key).isSome = true := List.find?_isSome.mpr ⟨e, he, hs1⟩
  obtain ⟨e', he'⟩ := Option.isSome_iff_exists.mp hs2
  have hm := List.mem_of_find?_eq_some he'
  have hki := List.find?_some he'
  obtain ⟨i', t', v', u', e1', e2', _⟩ := b3_is e' (List.all_eq_true.mp b3_strs e' hm)
  rw [e1'] at hki
  have hi : i' = s + (d : Int) := of_decide_eq_true hki
  subst hi
  have hmem := run_at hm e1' e2' (List.any_eq_true.mpr ⟨s, hs, by rw [Bool.and_eq_true, decide_eq_true_eq, decide_eq_true_eq]; omega⟩)
  rw [b3_run] at hmem
  obtain ⟨s', hs', hx⟩ := List.mem_flatMap.mp hmem
  obtain ⟨d', hd', hy⟩ := List.mem_map.mp hx
  injection hy with h2 h3
  have hd2 := List.mem_range.mp hd'
  have hsd : d' = d := by
    have := caps_apart s hs s' hs'
    omega
  unfold mapB3 b3find findBy
  rw [hc, List.find?_toArray, he', Option.map_some, e2', ← hsd]
  obtain ⟨wc⟩ := v'
  exact congrArg Str.mk (Array.toList_inj.mp h3.symm)
theorem signs_punct : (signsC.all fun l => l.all fun c => punct.contains c) = true := by decide +kernel
noncomputable def tokC : List (List Nat × Int) := [([33], 54), ([33, 61], 28), ([37], 24), ([37, 61], 40), ([38], 19), ([38, 61], 41), ([40], 7), ([41], 8), ([42], 16),
  ([42, 42], 35), ([42, 42, 61], 46), ([42, 61], 38), ([43], 14), ([43, 61], 36), ([44], 12), ([45], 15),
  ([45, 61], 37), ([45, 62], 51), ([46], 23), ([46, 46, 46], 52), ([47], 17), ([47, 47], 47), ([47, 47, 61], 48),
  ([47, 61], 39), ([58], 11), ([58, 61], 53), ([59], 13), ([60], 20), ([60, 60], 33), ([60, 60, 61], 44),
  ([60, 61], 29), ([61], 22), ([61, 61], 27), ([62], 21), ([62, 61], 30), ([62, 62], 34), ([62, 62, 61], 45),
  ([64], 49), ([64, 61], 50), ([91], 9), ([93], 10), ([94], 32), ([94, 61], 43), ([123], 25), ([124], 18),
  ([124, 61], 42), ([125], 26), ([126], 31)]
theorem tok_lit : tokTab = tokC.map fun x => ((⟨x.1.toArray⟩ : Str), x.2) := by decide +kernel
theorem tok_num (l : List Nat) : tokNum ⟨l.toArray⟩ = (tokC.find? fun x => x.1 == l).map (·.2) := by
  unfold tokNum
  rw [tok_lit, List.find?_map, Option.map_map]
  have e : ((fun x : Str × Int => x.1 == ⟨l.toArray⟩) ∘ fun x : List Nat × Int => ((⟨x.1.toArray⟩ : Str), x.2)) = fun x : List Nat × Int => x.1 == l := by
    funext x
    show ((⟨x.1.toArray⟩ : Str) == ⟨l.toArray⟩) = (x.1 == l)
    rw [Bool.eq_iff_iff]; simp
  rw [e]
  rfl
theorem tok_signs : ((List.range 48).all fun i => (tokC.find? fun x => x.1 == signsC.getD i []).map (·.2) == some ((7 : Int) + (i : Int))) = true := by decide +kernel
theorem tok_letters : ((List.range 13).all fun d => ((tokC.find? fun x => x.1 == [97 + d]).map (·.2)).isNone) = true := by decide +kernel
theorem b1_unseen : (unseenC.all fun c => inB1 ((c.toNat : Nat) : Int)) = true := by decide +kernel
theorem b1_punct : (punct.all fun c => !inB1 (c : Int)) = true := by decide +kernel
theorem b1_letters : (startsC.all fun s => (List.range 13).all fun d => !inB1 ((s.toNat + d : Nat) : Int)) = true := by decide +kernel
theorem join_sign (sg : List Nat) : Txt.join (Str.ofString "") (sg.map fun c => (⟨#[c]⟩ : Str)) = ⟨sg.toArray⟩ := by
  have h := join_flat (sg.map fun c => [c])
  rw [List.map_map] at h
  have e : (fun c : Nat => (⟨#[c]⟩ : Str)) = (fun l : List Nat => (⟨l.toArray⟩ : Str)) ∘ fun c => [c] := by funext c; rfl
  rw [e, h]
  have key : ∀ l : List Nat, (l.map fun c => [c]).flatten = l := by
    intro l
    induction l with
    | nil => rfl
    | cons a r ih => simp [ih]
  rw [key]
theorem unseen_at (x : Int) : ∃ c ∈ unseenC, unseenL.getD (x.fmod 27).toNat 0 = c := by
  have h := fmod_lt x (k := 27) (by decide)
  refine ⟨_, ?_, rfl⟩
  rw [unseen_lit]
  exact getD_mem (by show _ < 27; omega)
theorem sign_low {n : Int} (h0 : 208 ≤ n) (h1 : n < 256) (x : Int) : ∃ i : Nat, i < 48 ∧ n = 208 + (i : Int) ∧ signOf n x = signsC.getD i [] ∧ signsC.getD i [] ∈ signsC := by
  refine ⟨(n - 208).toNat, by omega, by omega, ?_, getD_mem (by show _ < 48; omega)⟩
  unfold signOf
  rw [if_pos h1, signs_lit]
theorem sign_high {n : Int} (h0 : 256 ≤ n) (h1 : n ≤ 268) (x : Int) : ∃ s ∈ startsC, ∃ d : Nat, d < 13 ∧ n = 256 + (d : Int) ∧ signOf n x = [s.toNat + d] := by
  have h := fmod_lt x (k := 12) (by decide)
  have hm : startsC.getD (x.fmod 12).toNat 0 ∈ startsC := getD_mem (by show _ < 12; omega)
  refine ⟨_, hm, (n - 256).toNat, by omega, by omega, ?_⟩
  have hp : ∀ v ∈ startsC, (0 : Int) ≤ v := by decide
  have := hp _ hm
  unfold signOf
  rw [if_neg (by omega), starts_lit, Int.add_sub_assoc, Int.toNat_add this (by omega)]
theorem map_letter {s : Int} (hs : s ∈ startsC) {d : Nat} (hd : d < 13) : mapB3 (s.toNat + d) = ⟨#[97 + d]⟩ := by
  have hl := List.all_eq_true.mp low_letters d (List.mem_range.mpr hd)
  rw [Bool.and_eq_true, beq_iff_eq, beq_iff_eq] at hl
  by_cases h1 : s = 97
  · subst h1
    exact (map_low (show 97 + d ≤ 126 by omega)).trans hl.1
  · by_cases h2 : s = 65
    · subst h2
      exact (map_low (show 65 + d ≤ 126 by omega)).trans hl.2
    · have hc : s ∈ capsC := by
        unfold capsC startsC at *
        simp only [List.mem_cons, List.not_mem_nil, or_false] at hs
        rcases hs with h | h | hs
        · exact absurd h h1
        · exact absurd h h2
        · simpa using hs
      have hp : ∀ v ∈ startsC, (0 : Int) ≤ v := by decide
      exact b3_caps hc hd (hp s hs)
theorem sign_seen {n : Int} (h0 : 208 ≤ n) (h1 : n ≤ 268) (x : Int) : ∀ c ∈ signOf n x, inB1 (c : Int) = false := by
  intro c hc
  by_cases h : n < 256
  · obtain ⟨i, hi, _, e, hm⟩ := sign_low h0 h x
    rw [e] at hc
    have h2 := List.all_eq_true.mp signs_punct _ hm
    have h3 := List.all_eq_true.mp h2 c hc
    have h4 := List.all_eq_true.mp b1_punct c (by simpa using h3)
    simpa using h4
  · obtain ⟨s, hs, d, hd, _, e⟩ := sign_high (by omega) h1 x
    rw [e] at hc
    rw [List.mem_singleton.mp hc]
    have h2 := List.all_eq_true.mp b1_letters s hs
    have h3 := List.all_eq_true.mp h2 d (List.mem_range.mpr hd)
    simpa using h3
theorem word_bare {n : Int} (h0 : 208 ≤ n) (h1 : n ≤ 268) (x : Int) : (wordOf n x).filter (fun c : Nat => !inB1 c) = signOf n x := by
  obtain ⟨u, hu, e⟩ := unseen_at x
  have hb := List.all_eq_true.mp b1_unseen u hu
  have hs := sign_seen h0 h1 x
  unfold wordOf
  rw [e, List.filter_append, List.filter_append, List.filter_cons_of_neg (by rw [hb]; decide), List.filter_nil, List.append_nil, List.filter_eq_self.mpr fun c hc => by rw [hs c (List.mem_of_mem_take hc)]; rfl, List.filter_eq_self.mpr fun c hc => by rw [hs c (List.mem_of_mem_drop hc)]; rfl, List.take_append_drop]
theorem num_word {n : Int} (h0 : 208 ≤ n) (h1 : n ≤ 268) (x : Int) : numOf (wordOf n x) = n := by
  unfold numOf lawNumber bareText lawBare
  have e0 : (⟨(wordOf n x).toArray⟩ : Str).cps.toList = wordOf n x := by simp
  rw [e0, word_bare h0 h1]
  by_cases h : n < 256
  · obtain ⟨i, hi, hn, e, hm⟩ := sign_low h0 h x
    have hmap : (signOf n x).map mapB3 = (signOf n x).map fun c => (⟨#[c]⟩ : Str) := by
      refine List.map_congr_left fun c hc => ?_
      rw [e] at hc
      have h2 := List.all_eq_true.mp signs_punct _ hm
      have h3 := List.all_eq_true.mp h2 c hc
      have h4 : c ∈ punct := by simpa using h3
      have h5 : c ≤ 126 := (by decide : ∀ c ∈ punct, c ≤ 126) c h4
      have h6 := List.all_eq_true.mp low_punct c h4
      rw [map_low h5]
      exact beq_iff_eq.mp h6
    rw [hmap, join_sign]
    have hbd := signOf_bd h0 x
    rw [if_neg (by
      intro q
      rw [show Str.ofString "" = ⟨([] : List Nat).toArray⟩ from em_l] at q
      have q2 := congrArg (fun s : Str => s.cps.toList.length) q
      simp at q2
      rw [q2] at hbd
      simp at hbd), tok_num, e]
    have h7 := List.all_eq_true.mp tok_signs i (List.mem_range.mpr hi)
    rw [beq_iff_eq.mp h7]
    show (201 : Int) + (7 + (i : Int)) = n
    omega
  · obtain ⟨s, hs, d, hd, hn, e⟩ := sign_high (by omega) h1 x
    have hmap : (signOf n x).map mapB3 = [97 + d].map fun c => (⟨#[c]⟩ : Str) := by
      rw [e, List.map_cons, List.map_nil, map_letter hs hd]
      rfl
    rw [hmap, join_sign]
    rw [if_neg (by
      intro q
      rw [show Str.ofString "" = ⟨([] : List Nat).toArray⟩ from em_l] at q
      have q2 := congrArg (fun s : Str => s.cps.toList.length) q
      simp at q2), tok_num]
    have h7 := List.all_eq_true.mp tok_letters d (List.mem_range.mpr hd)
    have h8 : (tokC.find? fun x => x.1 == [97 + d]).map (·.2) = none := by simpa using h7
    rw [h8]
    have h9 : ∀ d : Nat, d < 13 → (Txt.item ⟨[97 + d].toArray⟩ 0).cps.getD 0 0 = 97 + d := by decide
    show (159 : Int) + (((Txt.item ⟨[97 + d].toArray⟩ 0).cps.getD 0 0 : Nat) : Int) = n
    rw [h9 d hd]
    omega
noncomputable def Good (c : Nat) : Prop := isWs c = false ∧ (c == 34) = false ∧ (c == 92) = false
theorem good_of {c : Nat} (h : c ≠ 10 ∧ c ≠ 9 ∧ c ≠ 13 ∧ c ≠ 32 ∧ c ≠ 34 ∧ c ≠ 92) : Good c := by
  unfold Good isWs
  obtain ⟨h1, h2, h3, h4, h5, h6⟩ := h
  simp only [h1, h2, h3, h4, h5, h6, beq_iff_eq, decide_false, decide_true, Bool.or_false, ne_eq, not_false_eq_true, and_self, Bool.or_eq_false_iff, beq_eq_false_iff_ne, decide_eq_false_iff_not]
theorem good_big {c : Nat} (h : 65 ≤ c) (h2 : c ≠ 92) : Good c :=
  good_of ⟨Nat.ne_of_gt (Nat.lt_of_lt_of_le (by decide) h), Nat.ne_of_gt (Nat.lt_of_lt_of_le (by decide) h), Nat.ne_of_gt (Nat.lt_of_lt_of_le (by decide) h), Nat.ne_of_gt (Nat.lt_of_lt_of_le (by decide) h), Nat.ne_of_gt (Nat.lt_of_lt_of_le (by decide) h), h2⟩
theorem word_good {n : Int} (h0 : 208 ≤ n) (h1 : n ≤ 268) (x : Int) : ∀ c ∈ wordOf n x, Good c := by
  have hsg : ∀ c ∈ signOf n x, Good c := by
    intro c hc
    by_cases h : n < 256
    · obtain ⟨i, hi, _, e, hm⟩ := sign_low h0 h x
      rw [e] at hc
      have h2 := List.all_eq_true.mp signs_punct _ hm
      have h3 := List.all_eq_true.mp h2 c hc
      have h4 : c ∈ punct := by simpa using h3
      exact good_of ((by decide : ∀ c ∈ punct, c ≠ 10 ∧ c ≠ 9 ∧ c ≠ 13 ∧ c ≠ 32 ∧ c ≠ 34 ∧ c ≠ 92) c h4)
    · obtain ⟨s, hs, d, hd, _, e⟩ := sign_high (by omega) h1 x
      rw [e] at hc
      rw [List.mem_singleton.mp hc]
      have hp : ∀ v ∈ startsC, v = 65 ∨ 97 ≤ v := by decide
      rcases hp s hs with rfl | h97
      · exact good_big (Nat.le_add_right 65 d) (Nat.ne_of_lt (Nat.lt_of_lt_of_le (Nat.add_lt_add_left hd 65) (by decide)))
      · have h98 : 97 ≤ s.toNat + d := Nat.le_trans (show (97 : Int).toNat ≤ s.toNat from Int.toNat_le_toNat h97) (Nat.le_add_right _ _)
        exact good_big (Nat.le_trans (by decide) h98) (Nat.ne_of_gt (Nat.lt_of_lt_of_le (by decide) h98))
  intro c hc
  unfold wordOf at hc
  rcases List.mem_append.mp hc with hc | hc
  · rcases List.mem_append.mp hc with hc | hc
    · exact hsg c (List.mem_of_mem_take hc)
    · obtain ⟨u, hu, e⟩ := unseen_at x
      rw [e] at hc
      rw [List.mem_singleton.mp hc]
      have hp : ∀ v ∈ unseenC, 173 ≤ v := by decide
      have h98 : 173 ≤ u.toNat := (show (173 : Int).toNat ≤ u.toNat from Int.toNat_le_toNat (hp u hu))
      exact good_big (Nat.le_trans (by decide) h98) (Nat.ne_of_gt (Nat.lt_of_lt_of_le (by decide) h98))
  · exact hsg c (List.mem_of_mem_drop hc)
theorem lexWord_sl (y : Int) (rest : List Nat) : ∀ (w : List Nat) (k : Nat) (acc : List Nat), (∀ c ∈ w, Good c) → lexWord acc (slashed y k w ++ rest) = lexWord (acc ++ w) rest
  | [], _, acc, _ => by simp [slashed]
  | c :: w, k, acc, h => by
    have ih := lexWord_sl y rest w (k + 1) (acc ++ [c]) fun x hx => h x (.tail _ hx)
    have hg := h c (.head _)
    rw [List.append_assoc] at ih
    unfold slashed
    split
    · show lexWord acc (92 :: c :: (slashed y (k + 1) w ++ rest)) = _
      exact ih
    · show lexWord acc (c :: (slashed y (k + 1) w ++ rest)) = _
      rw [lexWord_one hg.1 hg.2.2]
      exact ih
theorem lexMarks_sl (y : Int) (rest : List Nat) : ∀ (w : List Nat) (k : Nat) (acc : List Nat), (∀ c ∈ w, Good c) → lexMarks acc (slashed y k w ++ rest) = lexMarks (acc ++ w) rest
  | [], _, acc, _ => by simp [slashed]
  | c :: w, k, acc, h => by
    have ih := lexMarks_sl y rest w (k + 1) (acc ++ [c]) fun x hx => h x (.tail _ hx)
    have hg := h c (.head _)
    rw [List.append_assoc] at ih
    unfold slashed
    split
    · show lexMarks acc (92 :: c :: (slashed y (k + 1) w ++ rest)) = _
      exact ih
    · show lexMarks acc (c :: (slashed y (k + 1) w ++ rest)) = _
      rw [lexMarks_one hg.2.1 hg.2.2]
      exact ih
theorem lexTok_sl (y : Int) (rest : List Nat) {w : List Nat} (hw : w ≠ []) (h : ∀ c ∈ w, Good c) : lexTok (slashed y 0 w ++ rest) = lexWord w rest := by
  cases w with
  | nil => exact absurd rfl hw
  | cons c w =>
    have hg := h c (.head _)
    have ih := lexWord_sl y rest w 1 [c] fun x hx => h x (.tail _ hx)
    unfold slashed
    split
    · show lexTok (92 :: c :: (slashed y 1 w ++ rest)) = _
      exact ih
    · show lexTok (c :: (slashed y 1 w ++ rest)) = _
      rw [lexTok_one hg.1 hg.2.1 hg.2.2]
      exact ih
noncomputable def bodyOf (n x y : Int) : List Nat := if y.fmod 2 = 1 then [34] ++ slashed y 0 (wordOf n x) ++ [34] else slashed y 0 (wordOf n x)
noncomputable def blankOf (y : Int) : Nat := wsL.getD ((y.fdiv 2).fmod 4).toNat 0
theorem card_is (n x y : Int) : cardOf n x y = bodyOf n x y ++ [blankOf y] := rfl
theorem blank_ws (y : Int) : isWs (blankOf y) = true := by
  have h := fmod_lt (y.fdiv 2) (k := 4) (by decide)
  have hm : blankOf y ∈ wsL := getD_mem (by show _ < 4; omega)
  exact (by decide : ∀ c ∈ wsL, isWs c = true) _ hm
theorem word_ne (n x : Int) : wordOf n x ≠ [] := by
  unfold wordOf
  simp
theorem lex_card {n : Int} (h0 : 208 ≤ n) (h1 : n ≤ 268) (x y : Int) (rest : List Nat) : ∃ r, lexTok (cardOf n x y ++ rest) = (wordOf n x, r) ∧ lexTok r = lexTok rest := by
  have hg := word_good h0 h1 x
  have hb := blank_ws y
  have hskip : lexTok (blankOf y :: rest) = lexTok rest := by
    exact lexTok_ws hb
  rw [card_is, List.append_assoc]
  unfold bodyOf
  split
  · refine ⟨blankOf y :: rest, ?_, hskip⟩
    show lexTok (34 :: (slashed y 0 (wordOf n x) ++ [34] ++ ([blankOf y] ++ rest))) = _
    rw [List.append_assoc]
    show lexMarks [] (slashed y 0 (wordOf n x) ++ (34 :: blankOf y :: rest)) = _
    rw [lexMarks_sl y _ _ _ _ hg]
    rfl
  · refine ⟨rest, ?_, rfl⟩
    rw [lexTok_sl y _ (word_ne n x) hg]
    show lexWord (wordOf n x) (blankOf y :: rest) = _
    exact lexWord_ws hb
theorem lex_body {n : Int} (h0 : 208 ≤ n) (h1 : n ≤ 268) (x y : Int) : lexTok (bodyOf n x y) = (wordOf n x, []) := by
  have hg := word_good h0 h1 x
  unfold bodyOf
  split
  · show lexTok (34 :: (slashed y 0 (wordOf n x) ++ [34])) = _
    show lexMarks [] (slashed y 0 (wordOf n x) ++ [34]) = _
    rw [lexMarks_sl y _ _ _ _ hg]
    rfl
  · have := lexTok_sl y [] (word_ne n x) hg
    rw [List.append_nil] at this
    rw [this]
    rfl
theorem num_nil : numOf [] = 0 := by
  unfold numOf lawNumber bareText lawBare
  rw [if_pos]
  rfl
structure CardAt where
  n : Int
  x : Int
  y : Int
noncomputable def CardAt.text (t : CardAt) : List Nat := cardOf t.n t.x t.y
noncomputable def CardAt.Ok (t : CardAt) : Prop := 208 ≤ t.n ∧ t.n ≤ 268
theorem words_cards : ∀ (ts : List CardAt) (f : Nat) (r : List Nat), ts ≠ [] → (∀ t ∈ ts, t.Ok) → ts.length < f → lexTok r = lexTok (ts.map CardAt.text).flatten.dropLast → (wordsOf f r).map numOf = ts.map CardAt.n ++ [0]
  | [], _, _, h, _, _, _ => absurd rfl h
  | [t], f, r, _, hok, hf, hr => by
    obtain ⟨f, rfl⟩ : ∃ g, f = g + 2 := ⟨f - 2, by simp at hf; omega⟩
    have ht := hok t (.head _)
    have e : ([t].map CardAt.text).flatten.dropLast = bodyOf t.n t.x t.y := by
      show (cardOf t.n t.x t.y ++ []).dropLast = _
      rw [List.append_nil, card_is, List.dropLast_concat]
    rw [e, lex_body ht.1 ht.2] at hr
    have hn := num_word ht.1 ht.2 t.x
    unfold wordsOf
    rw [hr, if_neg (by rw [hn]; have := ht.1; omega)]
    have hl : lexTok [] = ([], []) := rfl
    unfold wordsOf
    rw [hl, if_pos num_nil]
    show [numOf (wordOf t.n t.x), numOf []] = [t.n, 0]
    rw [hn, num_nil]
  | t :: t2 :: ts, f, r, _, hok, hf, hr => by
    obtain ⟨f, rfl⟩ : ∃ g, f = g + 1 := ⟨f - 1, by simp at hf; omega⟩
    have ht := hok t (.head _)
    have hne : ((t2 :: ts).map CardAt.text).flatten ≠ [] := by
      rw [List.map_cons, List.flatten_cons]
      unfold CardAt.text
      rw [card_is]
      simp
    have e : ((t :: t2 :: ts).map CardAt.text).flatten.dropLast = cardOf t.n t.x t.y ++ ((t2 :: ts).map CardAt.text).flatten.dropLast := by
      rw [List.map_cons, List.flatten_cons, List.dropLast_append_of_ne_nil hne]
      rfl
    obtain ⟨r', h1, h2⟩ := lex_card ht.1 ht.2 t.x t.y ((t2 :: ts).map CardAt.text).flatten.dropLast
    rw [e, h1] at hr
    have hn := num_word ht.1 ht.2 t.x
    have ih := words_cards (t2 :: ts) f r' (by simp) (fun q hq => hok q (.tail _ hq)) (by simp at hf ⊢; omega) h2
    unfold wordsOf
    rw [hr, if_neg (by rw [hn]; have := ht.1; omega)]
    show numOf (wordOf t.n t.x) :: (wordsOf f r').map numOf = t.n :: ((t2 :: ts).map CardAt.n ++ [0])
    rw [hn, ih]
theorem flat_len : ∀ ls : List (List Nat), (∀ l ∈ ls, 2 ≤ l.length) → 2 * ls.length ≤ ls.flatten.length
  | [], _ => by simp
  | a :: r, h => by
    have h1 := h a (.head _)
    have h2 := flat_len r fun l hl => h l (.tail _ hl)
    simp only [List.flatten_cons, List.length_append, List.length_cons]
    omega
theorem card_two (n x y : Int) : 2 ≤ (cardOf n x y).length := by
  rw [card_is, List.length_append]
  have : 1 ≤ (bodyOf n x y).length := by
    unfold bodyOf
    split
    · simp
    · have h := word_ne n x
      cases hw : wordOf n x with
      | nil => exact absurd hw h
      | cons c w => unfold slashed; split <;> simp
  simp
  omega
theorem perm_map_getD {o : List Int} {n : Nat} (hl : o.length = n) (b : Int) : (List.range n).map (fun k : Nat => b + o.getD ((k : Int)).toNat 0) = o.map fun x => b + x := by
  subst hl
  apply List.ext_getElem
  · simp
  · intro i h1 h2
    have hi : i < o.length := by simpa using h1
    simp [List.getD, List.getElem?_eq_getElem hi]
theorem num_ok {size base : Int} (h3 : 3 ≤ size) (h6 : size ≤ 6) (hb0 : 208 ≤ base) (hb1 : base ≤ 263) (rl : List Int) (o : List Int) (hp : o.Perm (upTo size.toNat)) :
    numsOf (cards1 size base rl o).flatten.dropLast = (o.map fun x => base + x) ++ [0] := by
  have hl : o.length = size.toNat := hp.length_eq.trans (upTo_len _)
  have hm := upTo_mem hp
  let ts : List CardAt := (List.range size.toNat).map fun k : Nat => ⟨base + o.getD ((k : Int)).toNat 0, rl.getD (11 + (k : Int)).toNat 0, rl.getD (17 + (k : Int)).toNat 0⟩
  have e : cards1 size base rl o = ts.map CardAt.text := by
    show _ = List.map _ (List.map _ _)
    rw [List.map_map]; rfl
  have hn : ts.map CardAt.n = o.map fun x => base + x := by
    show List.map _ (List.map _ _) = _
    rw [List.map_map]
    exact perm_map_getD hl base
  have hok : ∀ t ∈ ts, t.Ok := by
    intro t ht
    obtain ⟨k, hk, rfl⟩ := List.mem_map.mp ht
    have hk' := List.mem_range.mp hk
    have := hm (o.getD ((k : Int)).toNat 0) (getD_mem (by omega))
    exact ⟨by show 208 ≤ base + _; omega, by show base + _ ≤ 268; omega⟩
  have htl : ts.length = size.toNat := by simp [ts]
  have h2 := flat_len (ts.map CardAt.text) fun l hl => by
    obtain ⟨t, _, rfl⟩ := List.mem_map.mp hl
    exact card_two _ _ _
  rw [List.length_map, htl] at h2
  unfold numsOf
  rw [e, ← hn]
  exact words_cards ts _ _ (fun q => by rw [q] at htl; simp at htl; omega) hok (by rw [List.length_dropLast, htl]; omega) rfl
noncomputable def Rep : List Nat → List Int → Prop
  | c, [] => numOf (lexTok c).1 = 0
  | c, n :: A => numOf (lexTok c).1 = n ∧ Rep (lexTok c).2 A
noncomputable def fallsN : List Int → List Int → List Int → Bool
  | A, B, [] => decide (A = []) && decide (B = [])
  | A, B, n :: ns => if A.head? = some n then fallsN A.tail B ns else if B.head? = some n then fallsN A B.tail ns else false
theorem rep_head {c : List Nat} {A : List Int} (hA : ∀ a ∈ A, a ≠ 0) (h : Rep c A) (n : Int) (hn : n ≠ 0) : numOf (lexTok c).1 = n ↔ A.head? = some n := by
  cases A with
  | nil =>
    have h' : numOf (lexTok c).1 = 0 := h
    rw [h']
    simp; omega
  | cons a A => rw [h.1]; simp
theorem rep_end {c : List Nat} {A : List Int} (hA : ∀ a ∈ A, a ≠ 0) (h : Rep c A) : numOf (lexTok c).1 = 0 ↔ A = [] := by
  cases A with
  | nil =>
    have h' : numOf (lexTok c).1 = 0 := h
    simp [h']
  | cons a A =>
    rw [h.1]
    have := hA a (.head _)
    simp [this]
theorem rep_tail {c : List Nat} {A : List Int} {n : Int} (h : Rep c A) (hh : A.head? = some n) : Rep (lexTok c).2 A.tail := by
  cases A with
  | nil => cases hh
  | cons a A => exact h.2
noncomputable def Hand (w : List Nat) (c : List Nat) (A : List Int) : Prop := (A = [] ∧ numOf w = 0) ∨ ∃ A', A = numOf w :: A' ∧ Rep c A'
theorem falls_eq : ∀ (ns : List Int) (c1 c2 : List Nat) (A B : List Int), (∀ a ∈ A, a ≠ 0) → (∀ b ∈ B, b ≠ 0) → (∀ n ∈ ns, n ≠ 0) → Rep c2 B →
    ((Rep c1 A → fallsOf [] c1 c2 ns = fallsN A B ns) ∧ ∀ w, Hand w c1 A → fallsOf [w] c1 c2 ns = fallsN A B ns)
  | [], c1, c2, A, B, hA, hB, _, h2 => by
    refine ⟨fun h1 => ?_, fun w h1 => ?_⟩
    · show (decide _ && decide _) = (decide _ && decide _)
      rw [decide_eq_decide.mpr (rep_end hA h1), decide_eq_decide.mpr (rep_end hB h2)]
    · show (decide _ && decide _) = (decide _ && decide _)
      rw [decide_eq_decide.mpr (rep_end hB h2)]
      congr 1
      refine decide_eq_decide.mpr ?_
      rcases h1 with ⟨rfl, h⟩ | ⟨A', rfl, _⟩
      · simp [h]
      · have := hA _ (.head _)
        simp [this]
  | n :: ns, c1, c2, A, B, hA, hB, hns, h2 => by
    have hn := hns n (.head _)
    have hns' : ∀ k ∈ ns, k ≠ 0 := fun k hk => hns k (.tail _ hk)
    have hAt : ∀ a ∈ A.tail, a ≠ 0 := fun a ha => hA a (List.mem_of_mem_tail ha)
    have hBt : ∀ a ∈ B.tail, a ≠ 0 := fun a ha => hB a (List.mem_of_mem_tail ha)
    have e2 := rep_head hB h2 n hn
    refine ⟨fun h1 => ?_, fun w h1 => ?_⟩
    · have e1 := rep_head hA h1 n hn
      show (if numOf (lexTok c1).1 = n then _ else if numOf (lexTok c2).1 = n then _ else false) = (if A.head? = some n then _ else if B.head? = some n then _ else false)
      by_cases q1 : A.head? = some n
      · rw [if_pos (e1.mpr q1), if_pos q1]
        exact (falls_eq ns _ _ _ _ hAt hB hns' h2).1 (rep_tail h1 q1)
      · rw [if_neg (fun q => q1 (e1.mp q)), if_neg q1]
        by_cases q2 : B.head? = some n
        · rw [if_pos (e2.mpr q2), if_pos q2]
          refine (falls_eq ns _ _ A _ hA hBt hns' (rep_tail h2 q2)).2 _ ?_
          cases A with
          | nil => exact .inl ⟨rfl, h1⟩
          | cons a A => exact .inr ⟨A, by rw [h1.1], h1.2⟩
        · rw [if_neg (fun q => q2 (e2.mp q)), if_neg q2]
    · have e1 : numOf w = n ↔ A.head? = some n := by
        rcases h1 with ⟨rfl, h⟩ | ⟨A', rfl, _⟩
        · rw [h]; simp; omega
        · simp
      show (if numOf w = n then _ else if numOf (lexTok c2).1 = n then _ else false) = (if A.head? = some n then _ else if B.head? = some n then _ else false)
      by_cases q1 : A.head? = some n
      · rw [if_pos (e1.mpr q1), if_pos q1]
        refine (falls_eq ns _ _ _ _ hAt hB hns' h2).1 ?_
        rcases h1 with ⟨rfl, h⟩ | ⟨A', rfl, h⟩
        · cases q1
        · exact h
      · rw [if_neg (fun q => q1 (e1.mp q)), if_neg q1]
        by_cases q2 : B.head? = some n
        · rw [if_pos (e2.mpr q2), if_pos q2]
          exact (falls_eq ns _ _ A _ hA hBt hns' (rep_tail h2 q2)).2 w h1
        · rw [if_neg (fun q => q2 (e2.mp q)), if_neg q2]
theorem rep_cards : ∀ (ts : List CardAt) (c : List Nat), (∀ t ∈ ts, t.Ok) → lexTok c = lexTok (ts.map CardAt.text).flatten → Rep c (ts.map CardAt.n)
  | [], c, _, h => by
    show numOf (lexTok c).1 = 0
    rw [h]
    exact num_nil
  | t :: ts, c, hok, h => by
    have ht := hok t (.head _)
    obtain ⟨r, h1, h2⟩ := lex_card ht.1 ht.2 t.x t.y (ts.map CardAt.text).flatten
    have e : ((t :: ts).map CardAt.text).flatten = cardOf t.n t.x t.y ++ (ts.map CardAt.text).flatten := rfl
    rw [e, h1] at h
    refine ⟨?_, ?_⟩
    · rw [h]; exact num_word ht.1 ht.2 t.x
    · rw [h]; exact rep_cards ts r (fun q hq => hok q (.tail _ hq)) h2
local macro_rules | `(tactic| omega) => `(tactic| k_extra "omega")
theorem rg_PlH_0 : True := by
  k_with_none
  (k_with "omega" => (first | lia))
  trivial
noncomputable def pileA (base : Int) (a : Nat) : List Int := (List.range a).reverse.map fun i : Nat => base + (i : Int)
noncomputable def pileB (base : Int) (n b : Nat) : List Int := (List.range (n - b)).map fun i : Nat => base + ((b + i : Nat) : Int)
theorem pileA_succ (base : Int) (a : Nat) : pileA base (a + 1) = (base + (a : Int)) :: pileA base a := by
  simp [pileA, List.range_succ]
theorem pileB_succ (base : Int) {n b : Nat} (h : b < n) : pileB base n b = (base + (b : Int)) :: pileB base n (b + 1) := by
  unfold pileB
  obtain ⟨k, hk⟩ : ∃ k, n - b = k + 1 := ⟨_, sub_step h⟩
  rw [hk, sub_next hk, List.range_succ_eq_map, List.map_cons, List.map_map]
  congr 1
  refine List.map_congr_left fun i _ => ?_
  show base + ((b + (i + 1) : Nat) : Int) = base + ((b + 1 + i : Nat) : Int)
  congr 2
  omega
theorem pileB_end (base : Int) (n : Nat) : pileB base n n = [] := by simp [pileB]
noncomputable def ExtP : Nat → Nat → List Int → Prop
  | _, _, [] => True
  | a, b, x :: l => (x + 1 = (a : Int) ∧ ExtP (a - 1) b l) ∨ (x = (b : Int) ∧ ExtP a (b + 1) l)
theorem fall_ext (base : Int) (n : Nat) : ∀ (l : List Int) (a b : Nat), a ≤ b → b ≤ n → (∀ x ∈ l, 0 ≤ x ∧ x < n ∧ (x < a ∨ (b : Int) ≤ x)) → l.Nodup → l.length + (b - a) = n →
    (fallsN (pileA base a) (pileB base n b) (l.map fun x => base + x) = true ↔ ExtP a b l)
  | [], a, b, hab, hbn, _, _, hl => by
    have ha : a = 0 := by simp at hl; omega
    have hb : b = n := by simp at hl; omega
    subst ha hb
    rw [pileB_end]
    simp [fallsN, ExtP, pileA]
  | x :: l, a, b, hab, hbn, hx, hnd, hl => by
    obtain ⟨hx0, hxn, hxab⟩ := hx x (.head _)
    obtain ⟨hxl, hndl⟩ := List.nodup_cons.mp hnd
    have hxs : ∀ y ∈ l, y ≠ x := fun y hy e => hxl (e ▸ hy)
    show (if (pileA base a).head? = some (base + x) then _ else if (pileB base n b).head? = some (base + x) then _ else false) = true ↔ (_ ∨ _)
    have e1 : (pileA base a).head? = some (base + x) ↔ x + 1 = (a : Int) := by
      cases a with
      | zero => simp [pileA]; omega
      | succ a => rw [pileA_succ]; simp; omega
    have e2 : (pileB base n b).head? = some (base + x) ↔ x = (b : Int) := by
      by_cases hb : b < n
      · rw [pileB_succ base hb]; simp; omega
      · have : b = n := by omega
        subst this
        rw [pileB_end]; simp; omega
    by_cases q1 : x + 1 = (a : Int)
    · rw [if_pos (e1.mpr q1)]
      obtain ⟨a, rfl⟩ : ∃ c, a = c + 1 := ⟨a - 1, by omega⟩
      rw [pileA_succ]
      have ih := fall_ext base n l a b (Nat.le_of_succ_le hab) hbn (fun y hy => by
        obtain ⟨h1, h2, h3⟩ := hx y (.tail _ hy)
        have := hxs y hy
        exact ⟨h1, h2, by omega⟩) hndl (by rw [List.length_cons] at hl; rw [sub_step hab, ← hl, Nat.add_right_comm, Nat.add_assoc])
      show fallsN (pileA base a) _ _ = true ↔ _
      rw [ih]
      constructor
      · exact fun h => .inl ⟨q1, h⟩
      · rintro (⟨_, h⟩ | ⟨h, _⟩)
        · exact h
        · omega
    · rw [if_neg (fun q => q1 (e1.mp q))]
      by_cases q2 : x = (b : Int)
      · rw [if_pos (e2.mpr q2)]
        have hb : b < n := by omega
        rw [pileB_succ base hb]
        have ih := fall_ext base n l a (b + 1) (by omega) (by omega) (fun y hy => by
          obtain ⟨h1, h2, h3⟩ := hx y (.tail _ hy)
          have := hxs y hy
          exact ⟨h1, h2, by omega⟩) hndl (by rw [List.length_cons] at hl; rw [Nat.succ_sub hab, ← hl, Nat.add_right_comm, Nat.add_assoc])
        show fallsN _ (pileB base n (b + 1)) _ = true ↔ _
        rw [ih]
        constructor
        · exact fun h => .inr ⟨q2, h⟩
        · rintro (⟨h, _⟩ | ⟨_, h⟩)
          · exact absurd h q1
          · exact h
      · rw [if_neg (fun q => q2 (e2.mp q))]
        simp [q1, q2]
theorem maxL_snoc {p : List Int} (hp : p ≠ []) (x : Int) : maxL (p ++ [x]) = max (maxL p) x := by
  obtain ⟨h1, h2⟩ := maxL_spec p hp
  by_cases h : maxL p ≤ x
  · rw [Int.max_eq_right h]
    exact maxL_eq (by simp) fun a ha => by
      rcases List.mem_append.mp ha with ha | ha
      · exact Int.le_trans (h2 a ha) h
      · rw [List.mem_singleton.mp ha]; exact Int.le_refl _
  · rw [Int.max_eq_left (by omega)]
    exact maxL_eq (List.mem_append_left _ h1) fun a ha => by
      rcases List.mem_append.mp ha with ha | ha
      · exact h2 a ha
      · rw [List.mem_singleton.mp ha]; omega
theorem minL_snoc {p : List Int} (hp : p ≠ []) (x : Int) : minL (p ++ [x]) = min (minL p) x := by
  obtain ⟨h1, h2⟩ := minL_spec p hp
  by_cases h : x ≤ minL p
  · rw [Int.min_eq_right h]
    exact minL_eq (by simp) fun a ha => by
      rcases List.mem_append.mp ha with ha | ha
      · exact Int.le_trans h (h2 a ha)
      · rw [List.mem_singleton.mp ha]; exact Int.le_refl _
  · rw [Int.min_eq_left (by omega)]
    exact minL_eq (List.mem_append_left _ h1) fun a ha => by
      rcases List.mem_append.mp ha with ha | ha
      · exact h2 a ha
      · rw [List.mem_singleton.mp ha]; omega
theorem ext_iv : ∀ (l p : List Int) (a b : Nat), p ≠ [] → minL p = (a : Int) → maxL p + 1 = (b : Int) → (p.length : Int) = (b : Int) - (a : Int) → (∀ x : Int, (a : Int) ≤ x → x < b → x ∈ p) → (p ++ l).Nodup → (∀ x ∈ l, 0 ≤ x) →
    (ExtP a b l ↔ ∀ m, p.length ≤ m → m ≤ p.length + l.length → ivB ((p ++ l).take m) = true)
  | [], p, a, b, hp, h1, h2, hl, _, _, _ => by
    simp only [ExtP, true_iff]
    intro m hm hm2
    have : m = p.length := by simp at hm2; omega
    subst this
    rw [List.append_nil, List.take_length]
    unfold ivB
    rw [Bool.or_eq_true]
    exact .inr (decide_eq_true (by omega))
  | x :: l, p, a, b, hp, h1, h2, hl, hin, hnd, h0 => by
    have hx0 := h0 x (.head _)
    have hpx : ∀ y ∈ p, y ≠ x := by
      intro y hy e
      subst e
      exact (List.nodup_append.mp hnd).2.2 y hy y (.head _) rfl
    have hiv : ivB p = true := by
      unfold ivB
      rw [Bool.or_eq_true]
      exact .inr (decide_eq_true (by omega))
    have hs : p ++ x :: l = (p ++ [x]) ++ l := by rw [List.append_assoc]; rfl
    have hout : x < a ∨ (b : Int) ≤ x := by
      by_cases q : x < a
      · exact .inl q
      · by_cases q2 : (b : Int) ≤ x
        · exact .inr q2
        · exact absurd rfl (hpx x (hin x (by omega) (by omega)))
    have hpl : (p ++ [x]).length = p.length + 1 := by simp
    have split : (∀ m, p.length ≤ m → m ≤ p.length + (x :: l).length → ivB ((p ++ x :: l).take m) = true) ↔ ∀ m, (p ++ [x]).length ≤ m → m ≤ (p ++ [x]).length + l.length → ivB (((p ++ [x]) ++ l).take m) = true := by
      rw [hs, hpl, List.length_cons]
      constructor
      · exact fun h m hm hm2 => h m (by omega) (by omega)
      · intro h m hm hm2
        by_cases q : m = p.length
        · subst q
          rw [List.append_assoc, List.take_left]
          exact hiv
        · exact h m (by omega) (by omega)
    rw [split]
    have hnd' : ((p ++ [x]) ++ l).Nodup := hs ▸ hnd
    have h0' : ∀ y ∈ l, 0 ≤ y := fun y hy => h0 y (.tail _ hy)
    by_cases q1 : x + 1 = (a : Int)
    · have ih := ext_iv l (p ++ [x]) (a - 1) b (by simp) (by rw [minL_snoc hp, h1, Int.min_eq_right (by omega)]; omega) (by rw [maxL_snoc hp, Int.max_eq_left (by omega)]; exact h2) (by rw [hpl]; omega) (fun y ha hb => by
        by_cases e : y = x
        · subst e; simp
        · exact List.mem_append_left _ (hin y (by omega) hb)) hnd' h0'
      rw [← ih]
      show (_ ∨ _) ↔ _
      constructor
      · rintro (⟨_, h⟩ | ⟨h, _⟩)
        · exact h
        · omega
      · exact fun h => .inl ⟨q1, h⟩
    · by_cases q2 : x = (b : Int)
      · have ih := ext_iv l (p ++ [x]) a (b + 1) (by simp) (by rw [minL_snoc hp, h1, Int.min_eq_left (by omega)]) (by rw [maxL_snoc hp, Int.max_eq_right (by omega)]; omega) (by rw [hpl]; omega) (fun y ha hb => by
          by_cases e : y = x
          · subst e; simp
          · exact List.mem_append_left _ (hin y ha (by omega))) hnd' h0'
        rw [← ih]
        show (_ ∨ _) ↔ _
        constructor
        · rintro (⟨h, _⟩ | ⟨_, h⟩)
          · exact absurd h q1
          · exact h
        · exact fun h => .inr ⟨q2, h⟩
      · show (_ ∨ _) ↔ _
        simp only [q1, q2, false_and, or_self, false_iff]
        intro h
        have h3 := h (p ++ [x]).length (Nat.le_refl _) (by omega)
        rw [List.take_left] at h3
        unfold ivB at h3
        rw [decide_eq_false (by simp), Bool.false_or, maxL_snoc hp, minL_snoc hp, hpl] at h3
        have h4 := of_decide_eq_true h3
        rcases hout with q | q
        · rw [Int.max_eq_left (by omega), Int.min_eq_right (by omega)] at h4
          omega
        · rw [Int.max_eq_right (by omega), Int.min_eq_left (by omega)] at h4
          omega
theorem two_cuts : ([3, 4, 5, 6].all fun n => (List.range n).all fun k => ((List.range (n + 1)).filter fun i => decide (i = k ∨ i = k + 1)) == [k, k + 1]) = true := by decide +kernel
theorem falls_piles {size base : Int} (h3 : 3 ≤ size) (h6 : size ≤ 6) (hb0 : 208 ≤ base) (hb1 : base ≤ 263) (rl : List Int) {o : List Int} (hp : o.Perm (upTo size.toNat)) {i : Nat} (hi : i ≤ size.toNat) :
    fallsAt (cards2 size base rl) (o.map fun x => base + x) i = fallsN (pileA base i) (pileB base size.toNat i) (o.map fun x => base + x) := by
  have hm := upTo_mem hp
  let f : Nat → CardAt := fun k => ⟨base + (k : Int), rl.getD (23 + (k : Int)).toNat 0, rl.getD (22 - (k : Int)).toNat 0⟩
  have hc : cards2 size base rl = (List.range size.toNat).map fun k => (f k).text := rfl
  have hok : ∀ k, k < size.toNat → (f k).Ok := fun k hk => ⟨by show 208 ≤ base + (k : Int); omega, by show base + (k : Int) ≤ 268; omega⟩
  have hd : dealtL (cards2 size base rl) i = (((List.range i).reverse.map f).map CardAt.text) := by
    unfold dealtL
    rw [List.map_map, List.range_eq_range', List.reverse_range', List.map_map, ← List.range_eq_range']
    refine List.map_congr_left fun j hj => ?_
    have hj' := List.mem_range.mp hj
    have e : ((i : Int) - 1 - (j : Int)).toNat = 0 + i - 1 - j := by rw [Int.sub_sub, Nat.zero_add, Nat.sub_sub]; exact Int.toNat_sub i (1 + j)
    rw [hc, e]
    have hlt : 0 + i - 1 - j < size.toNat := by
      rw [Nat.zero_add, Nat.sub_sub, Nat.add_comm 1]; exact Nat.lt_of_lt_of_le (Nat.sub_lt (Nat.zero_lt_of_lt hj') (Nat.succ_pos j)) hi
    show (List.map _ _).getD _ [] = (f (0 + i - 1 - j)).text
    rw [List.getD_eq_getElem?_getD, List.getElem?_map, List.getElem?_range hlt]
    rfl
  have hr : (cards2 size base rl).drop i = (((List.range (size.toNat - i)).map fun k => f (i + k)).map CardAt.text) := by
    rw [hc, ← List.map_drop, List.map_map, List.range_eq_range', List.drop_range', List.range'_eq_map_range, List.map_map]
    refine List.map_congr_left fun j _ => ?_
    show (f _).text = (f _).text
    congr 2
    show 0 + i * 1 + j = i + j
    rw [Nat.zero_add, Nat.mul_one]
  have r1 := rep_cards ((List.range i).reverse.map f) (dealtL (cards2 size base rl) i).flatten (fun t ht => by
    obtain ⟨k, hk, rfl⟩ := List.mem_map.mp ht
    have := List.mem_range.mp (List.mem_reverse.mp hk)
    exact hok k (by omega)) (by rw [hd])
  have r2 := rep_cards ((List.range (size.toNat - i)).map fun k => f (i + k)) ((cards2 size base rl).drop i).flatten (fun t ht => by
    obtain ⟨k, hk, rfl⟩ := List.mem_map.mp ht
    have := List.mem_range.mp hk
    exact hok (i + k) (by omega)) (by rw [hr])
  rw [List.map_map] at r1 r2
  have hA : ∀ a ∈ pileA base i, a ≠ 0 := by
    intro a ha
    obtain ⟨k, _, rfl⟩ := List.mem_map.mp ha
    omega
  have hB : ∀ a ∈ pileB base size.toNat i, a ≠ 0 := by
    intro a ha
    obtain ⟨k, _, rfl⟩ := List.mem_map.mp ha
    omega
  have hN : ∀ a ∈ o.map (fun x => base + x), a ≠ 0 := by
    intro a ha
    obtain ⟨x, hx, rfl⟩ := List.mem_map.mp ha
    have := hm x hx
    omega
  exact (falls_eq _ _ _ (pileA base i) (pileB base size.toNat i) hA hB hN r2).1 r1
theorem cuts_ok {size base : Int} (h3 : 3 ≤ size) (h6 : size ≤ 6) (hb0 : 208 ≤ base) (hb1 : base ≤ 263) (rl : List Int) {o : List Int} (hp : o.Perm (upTo size.toNat)) :
    cutsOf (cards2 size base rl) (o.map fun x => base + x) (size.toNat + 1) = if decide (badAt o size.toNat = []) = true then [o.getD (Int.toNat 0) 0, o.getD (Int.toNat 0) 0 + 1] else [] := by
  have hl : o.length = size.toNat := hp.length_eq.trans (upTo_len _)
  have hm := upTo_mem hp
  have hnd : o.Nodup := hp.nodup_iff.mpr (upTo_nodup _)
  cases o with
  | nil => simp at hl; omega
  | cons x l =>
    have hx := hm x (.head _)
    obtain ⟨k, rfl⟩ : ∃ k : Nat, x = (k : Int) := ⟨x.toNat, by omega⟩
    have hk : k < size.toNat := by omega
    obtain ⟨hkl, hndl⟩ := List.nodup_cons.mp hnd
    have key : ∀ i, i ≤ size.toNat → (fallsAt (cards2 size base rl) (((k : Int) :: l).map fun x => base + x) i = true ↔ (i = k ∨ i = k + 1) ∧ ExtP k (k + 1) l) := by
      intro i hi
      rw [falls_piles h3 h6 hb0 hb1 rl hp hi, fall_ext base size.toNat _ i i (Nat.le_refl _) hi (fun y hy => by
        have := hm y hy
        exact ⟨this.1, this.2, by omega⟩) hnd (by omega)]
      show ((k : Int) + 1 = (i : Int) ∧ ExtP (i - 1) i l) ∨ ((k : Int) = (i : Int) ∧ ExtP i (i + 1) l) ↔ _
      constructor
      · rintro (⟨h, e⟩ | ⟨h, e⟩)
        · have : i = k + 1 := by omega
          subst this
          exact ⟨.inr rfl, e⟩
        · have : i = k := by omega
          subst this
          exact ⟨.inl rfl, e⟩
      · rintro ⟨rfl | rfl, e⟩
        · exact .inr ⟨rfl, e⟩
        · exact .inl ⟨by omega, e⟩
    have hbad : badAt ((k : Int) :: l) size.toNat = [] ↔ ExtP k (k + 1) l := by
      rw [bad_iff hl, ext_iv l [(k : Int)] k (k + 1) (by simp) rfl (by show (k : Int) + 1 = _; omega) (by simp; omega) (fun y h1 h2 => by
        have : y = (k : Int) := by omega
        subst this; simp) hnd (fun y hy => (hm y (.tail _ hy)).1)]
      have hl2 : l.length + 1 = size.toNat := by simpa using hl
      constructor
      · exact fun h m _ hm2 => h m (by simp at hm2; omega)
      · intro h m hm2
        cases m with
        | zero => rfl
        | succ m => exact h (m + 1) (by simp) (by simp; omega)
    have hget : ((k : Int) :: l).getD (Int.toNat 0) 0 = (k : Int) := rfl
    rw [hget]
    unfold cutsOf
    by_cases hb : badAt ((k : Int) :: l) size.toNat = []
    · rw [decide_eq_true hb, if_pos rfl]
      have he := hbad.mp hb
      have hf : ((List.range (size.toNat + 1)).filter fun i => fallsAt (cards2 size base rl) (((k : Int) :: l).map fun x => base + x) i) = (List.range (size.toNat + 1)).filter fun i => decide (i = k ∨ i = k + 1) := by
        refine List.filter_congr fun i hi => ?_
        have hi' := List.mem_range.mp hi
        rw [Bool.eq_iff_iff, key i (by omega)]
        simp [he]
      have h2 := List.all_eq_true.mp (List.all_eq_true.mp two_cuts size.toNat (by simp; omega)) k (List.mem_range.mpr hk)
      rw [hf, beq_iff_eq.mp h2]
      simp
    · rw [decide_eq_false hb, if_neg (by decide)]
      have hf : ((List.range (size.toNat + 1)).filter fun i => fallsAt (cards2 size base rl) (((k : Int) :: l).map fun x => base + x) i) = [] := by
        refine List.filter_eq_nil_iff.mpr fun i hi => ?_
        have hi' := List.mem_range.mp hi
        intro q
        exact hb (hbad.mpr ((key i (by omega)).mp q).2)
      rw [hf]; rfl
theorem rz_ConL6 : True := by k_with_none; trivial
local macro_rules | `(tactic| omega) => `(tactic| omega (config := {}))
theorem law_all {w : World} {q : Program} {mean : ExcName → Option Value} {mg mb : Str → Option Value} {loose : List Str}
  {dp un : Nat} {gd : Option (List Code)} {f : Addr} {cdv : Value} {outer : List Env} {A₀ : Around} {base h₀ : Heap} {L : Addr} {m : Str → Option Value} {s : Shared} {E : Value → Shared → Prop} {Q : Flow → Shared → Prop} {sc : Scope} {o1 o2 o3 o4 o5 o6 o7 o8 : Obj} {sl : Addr} {vs : List Value} {ns : List Int}
    (hsc : scAt 71 = some sc) (B : Below A₀ base outer h₀) (X : (K0 w.params).In h₀) (T : Top q loose mean mg mb h₀) (hd : dp + 12 < recursionLimit) (hu : un + 64 * 12 < cLine) (F : Fr h₀ L s.heap m) (hm : m (Str.ofString "script") = some (.ref sl)) (N : News h₀ L s.heap ((L + 1 + 1 + 1 + 1 + 1 + 1 + 1 + 1, o8) :: (L + 1 + 1 + 1 + 1 + 1 + 1 + 1, o7) :: (L + 1 + 1 + 1 + 1 + 1 + 1, o6) :: (L + 1 + 1 + 1 + 1 + 1, o5) :: (L + 1 + 1 + 1 + 1, o4) :: (L + 1 + 1 + 1, o3) :: (L + 1 + 1, o2) :: (L + 1, o1) :: (167, tabObj #[]) :: [])) (h167 : @LT.lt Nat _ 167 L)
    (d1 : o1.data = .cell none) (d2 : o2.data = .cell none) (d3 : o3.data = .cell none) (d4 : o4.data = .cell none) (d5 : o5.data = .cell none) (d6 : o6.data = .cell none) (d7 : o7.data = .cell none) (d8 : o8.data = .cell none)
    (hsl : h₀.IsList sl vs.toArray) (hi : IntsAre vs ns) (hl : ns.length ≤ 63)
    (fin : ∀ (m' : Str → Option Value) (cc : Addr) h' gs tk, Fr h₀ L h' m' → News h₀ L h' ((167, tabObj #[rawInt 187, rawInt 18, .ref cc]) :: []) → Q (.ret (.bool true)) { s with heap := h', gens := gs, toks := tk }) :
    wpAny (model rw_sn0078_01.row.prog w) (ktrTop dp un gd (Str.ofString "law") sc L f cdv (cellsFrom (L + 1) sc.names []) outer) (execs (defBody 71) (envOfC (Str.ofString "law") sc L f cdv)) Q E s := by
  refine law1 hsc rfl B X T hd hu F hm N ⟨⟨h167, trivial⟩⟩ d1 d2 d3 hsl hi hl ?_
  intro m1 p1 p3 nr rv rn ts tb h1 gs1 tk1 F1 N1 hrv dp1 dp3 hs1 hnr _
  have hl29 := rowB_len ns
  have hrb := rowB_mem ns
  have f0 := fmod_lt ((rowB ns).getD 0 0) (k := 4) (by decide)
  have f1 := fmod_lt ((rowB ns).getD 1 0) (k := 56) (by decide)
  generalize hsz : 3 + ((rowB ns).getD 0 0).fmod 4 = size at hs1
  generalize hbs : 208 + ((rowB ns).getD 1 0).fmod 56 = base9 at dp3
  have hs3 : 3 ≤ size := by omega
  have hs6 : size ≤ 6 := by omega
  have hb0 : 208 ≤ base9 := by omega
  have hb1 : base9 ≤ 263 := by omega
  refine law2 (tail := []) hsc rfl B X T hd hu F1 hs1 N1 ⟨trivial⟩ ⟨fun p hp => nomatch hp⟩ dp1 dp3 d4 d5 hrv hl29 hrb hs3 hs6 hb0 hb1 h167 hnr (fun o hp => num_ok hs3 hs6 hb0 hb1 _ o hp) ?_
  intro m2 p4 p5 no nn cc oc ov o iv ok nk cvs tq h2 gs2 tk2 F2 N2 hov hop hiv dp4 dp5 hs2 eoc ecv hno hnn hcc
  refine law3 (tail := []) hsc (by rw [List.drop_drop]) B X T hd hu F2 hs2 ⟨trivial⟩ hs3 hs6 hb0 hb1 h167 hnr hno hnn hcc dp1 dp3 dp4 dp5 hrv hl29 hrb hov hop hiv d6 N2 ?_
  intro m3 p6 nc cv ck h3 gs3 tk3 F3 N3 hcv dp6 hst hs3' hnc
  refine law4 (tail := []) hsc (by rw [List.drop_drop, List.drop_drop]) B X T hd hu F3 hs3' ⟨trivial⟩ hs3 hs6 hb0 hb1 h167 hnr hno hnn hcc dp1 dp3 dp4 dp5 hrv hl29 hrb hov hop hiv hcv dp6 hst hnc eoc ecv ⟨fun p hp => nomatch hp⟩ d7 N3 (by rw [hiv]; exact cuts_ok hs3 hs6 hb0 hb1 _ hop) ?_
  intro m4 o7' z h4 gs4 tk4 F4 N4 dz hst4 hs4
  refine law5 (tail := []) hsc (by rw [List.drop_drop, List.drop_drop, List.drop_drop]) B X T hd hu F4 hs4 ⟨trivial⟩ hs3 hs6 hb0 hb1 h167 hnr hno hnn hcc dp1 dp3 dp4 dp5 hrv hl29 hrb hov hop hiv hcv dp6 hst4 hnc eoc ecv ⟨fun p hp => nomatch hp⟩ d2 dz d8 N4 (fun k one two _ _ _ _ _ => taken_ok) (by rw [hiv]; exact fin_ok hs3 hs6 base9 hop) ?_
  intro m5 h5 gs5 tk5 F5 N5
  exact fin m5 cc h5 gs5 tk5 F5 N5
noncomputable abbrev tab0 : Obj := ⟨.none, none, .fields [].toArray, [].toArray⟩
theorem K1_at {P : Params} {h : Heap} (X : (K1 P).In h) : h.get? 167 = some tab0 := X 167 _ rfl
theorem K1_K0 {P : Params} {h : Heap} (X : (K1 P).In h) : (K0 P).In h := by
  intro a o e
  refine X a o ?_
  by_cases q : a = 167
  · subst q
    have hn : (K0 P).lookup 167 = none := rfl
    rw [hn] at e; cases e
  · show (match (a == 167) with | true => some tab0 | false => (K0 P).lookup a) = some o
    rw [beq_eq_false_iff_ne.mpr q]
    exact e
section
variable {h : Heap}
theorem hid (b : Addr) (o : Obj) (hb : b ≠ 167) (e : h.get? b = some o) : (hideAll h [167]).get? b = some o := hideAll_get [167] e (by simpa using hb)
theorem ns_hid {a : Addr} {m : Str → Option Value} (x : h.Ns a m) (ha : a ≠ 167) : (hideAll h [167]).Ns a m := let ⟨o, es, ep, e, r⟩ := x; ⟨o, es, ep, hid a o ha e, r⟩
theorem K0_hid {P : Params} (X : (K1 P).In h) : (K0 P).In (hideAll h [167]) := by
  intro a o e
  refine hid a o ?_ (K1_K0 X a o e)
  intro q
  subst q
  have hn : (K0 P).lookup 167 = none := rfl
  rw [hn] at e; cases e
theorem recs_law : (recsOf qL).map (·.name) = [Str.ofString "law"] := by kernel_rfl
theorem owns_none : ownsOf qL = [] := by kernel_rfl
theorem law_mg (P : Params) : (match (o3 P).data with | .dict es _ => nsFind es (Str.ofString "law") | _ => none) = some (.ref 199) := by kernel_rfl
theorem top_hid {P : Params} {loose : List Str} {mean : ExcName → Option Value} {mg mb : Str → Option Value} (T : Top qL loose mean mg mb h) (X : (K1 P).In h) : Top qL loose mean mg mb (hideAll h [167]) := by
  have h7 := K1_at X
  have X0 := K1_K0 X
  have nrec : ∀ {cd q}, h.CodeRec cd q → (hideAll h [167]).CodeRec cd q := by
    rintro cd q ⟨c, o, vs, t, e, g, d, r⟩
    refine ⟨c, o, vs, t, e, hid c o ?_ g, d, r⟩
    intro q
    subst q
    rw [h7] at g
    cases g
    cases d
    cases r
  refine ⟨ns_hid T.g (by decide), ns_hid T.b (by decide), ?_, ?_, ?_, ?_, T.const, T.free, T.builtins, ?_, ?_, ?_⟩
  · obtain ⟨mc, h1, h2⟩ := T.nolimit
    exact ⟨mc, ns_hid h1 (by decide), h2⟩
  · obtain ⟨mc, h1, h2⟩ := T.nodigits
    exact ⟨mc, ns_hid h1 (by decide), h2⟩
  · intro d hd
    obtain ⟨a, o, pm, code, doc, h1, h2, h3, h4⟩ := T.fn d hd
    refine ⟨a, o, pm, code, doc, h1, hid a o ?_ h2, h3, nrec h4⟩
    intro q
    subst q
    rw [h7] at h2
    cases h2
    cases h3
  · intro o ho
    rw [owns_none] at ho
    cases ho
  · intro d hd
    obtain ⟨a, o, fd, c, P', h1, h2, h3, h4, h5, h6⟩ := T.tab d hd
    have hname : d.name = Str.ofString "law" := by
      have := List.mem_map_of_mem (f := (·.name)) hd
      rw [recs_law] at this
      exact List.mem_singleton.mp this
    have ha : a = 199 := by
      obtain ⟨o', es, ep, e, hd', _, hf⟩ := T.g
      have e3 := X0 3 _ rfl
      have e' : h.get? 3 = some o' := e
      rw [e3] at e'
      cases e'
      have q := law_mg P
      rw [hd'] at q
      have q2 : mg (Str.ofString "law") = some (.ref 199) := (hf _).symm.trans q
      rw [hname, q2] at h1
      injection h1 with h1
      injection h1 with h1
      exact h1.symm
    subst ha
    have e199 := X0 199 _ rfl
    rw [e199] at h2
    cases h2
    have hfd : fd.code = .ref 198 := by
      have : (o199).data = .func fd := h3
      unfold o199 at this
      injection this with this
      rw [← this]
    rw [hfd] at h4
    injection h4 with h4
    subst h4
    have e198 := X0 198 _ rfl
    obtain ⟨⟨o, vs, k1, k2, k3, k4⟩, k5⟩ := id h6
    have k1' : h.get? 198 = some o := k1
    rw [e198] at k1'
    cases k1'
    cases k3
    cases k4
    refine ⟨199, _, fd, 198, 196, h1, hid _ _ (by decide) e199, h3, hfd, ?_, ?_⟩
    · obtain ⟨o, vs, file, tf, flags, tg, inF, text, tt, op, a1, r1, r2, r3, r4, r5, r6, b1, b2, r⟩ := h5
      exact ⟨o, vs, file, tf, flags, tg, inF, text, tt, op, hid _ _ (by decide) a1, r1, r2, r3, r4, r5, r6, hid _ _ (by decide) b1, b2, r⟩
    · obtain ⟨⟨o, vs, a1, r⟩, t⟩ := h6
      exact ⟨⟨o, vs, hid _ _ (by decide) a1, r⟩, hid _ _ (by decide) t⟩
  · obtain ⟨bm, ob, h1, h2, h3, h4, r⟩ := T.bmain
    refine ⟨bm, ob, h1, h2, hid bm ob ?_ h3, h4, r⟩
    intro q
    subst q
    rw [h7] at h3
    cases h3
    cases h4
  · intro hi
    obtain ⟨⟨mc, s1, s2, s3⟩, ⟨mm, m1, m2⟩, ⟨mb', i1, i2⟩, ⟨mg', bm, ob, g1, g2, g3, g4, g5⟩⟩ := T.seer hi
    refine ⟨⟨mc, ns_hid s1 (by decide), s2, s3⟩, ⟨mm, ns_hid m1 (by decide), m2⟩, ⟨mb', ns_hid i1 (by decide), i2⟩, ⟨mg', bm, ob, ns_hid g1 (by decide), g2, hid bm ob ?_ g3, g4, g5⟩⟩
    intro q
    subst q
    rw [h7] at g3
    cases g3
    cases g4
end
theorem fr_hid {h h₁ : Heap} {L : Addr} {m : Str → Option Value} (F : Fr h L h₁ m) : Fr (hideAll h [167]) L h₁ m := ⟨F.ns, fun b o e => F.keep b o (of_hideAll [167] e), by rw [hideAll_size]; exact F.above⟩
theorem none_hid {h : Heap} {a : Addr} (e : h.get? a = none) : (hideAll h [167]).get? a = none := by
  cases q : (hideAll h [167]).get? a with
  | none => rfl
  | some o => rw [of_hideAll [167] q] at e; cases e
theorem news_hid {h h₁ : Heap} {L : Addr} {m : Str → Option Value} {l : List (Addr × Obj)} (F : Fr h L h₁ m) (N : News h L h₁ l) (e : h.get? 167 = some tab0) (hL : @LT.lt Nat _ 167 L) : News (hideAll h [167]) L h₁ (l ++ (167, tabObj #[]) :: []) := by
  intro p hp
  rcases List.mem_append.mp hp with hp | hp
  · exact ⟨(N p hp).1, (N p hp).2.1, none_hid (N p hp).2.2⟩
  · rw [List.mem_singleton.mp hp]
    exact ⟨F.keep _ _ e, Nat.ne_of_lt hL, hideAll_none [167] (.head _)⟩
theorem list_hid {P : Params} {h : Heap} {a : Addr} {vs : Array Value} (X : (K1 P).In h) (x : h.IsList a vs) : (hideAll h [167]).IsList a vs := by
  obtain ⟨o, e, hc, r⟩ := x
  refine ⟨o, hid a o ?_ e, hc, r⟩
  intro q
  subst q
  rw [K1_at X] at e
  cases e
  cases hc
theorem old_hid {P : Params} {h h' : Heap} {L cc : Addr} {m : Str → Option Value} (X : (K1 P).In h) (F : Fr (hideAll h [167]) L h' m) (N : News (hideAll h [167]) L h' [(167, tabObj #[rawInt 187, rawInt 18, .ref cc])]) : OldK h h' := by
  have e167 := K1_at X
  have n167 := (N _ (.head _)).1
  have e171 := K1_K0 X 171 _ rfl
  refine ⟨fun b o e => ?_, fun b o e => ?_⟩
  · by_cases q : b = 167
    · subst q
      rw [e167] at e
      cases e
      exact .inr (.inl ⟨⟨171, _, _, e171, rfl, rfl, rfl⟩, rfl, #[], #[rawInt 187, rawInt 18, .ref cc], rfl, n167⟩)
    · exact .inl (F.keep b o (hid b o q e))
  · by_cases q : b = 167
    · subst q
      exact ⟨_, n167⟩
    · exact ⟨o, F.keep b o (hid b o q e)⟩
end Mine

open Mine
set_option maxHeartbeats 8000000 in
theorem PySem.Challenge.cw_sn0078_01_holds : PySem.Challenge.rw_sn0078_01.Holds := by
  w_on
  refine holds_law Mine.said0 fun said => ?_
  refine holds_behind (q := qL) (loose := looseL) (XP := fun _ _ => True) (YP := fun w h => (K1 w.params).In h) behind0 (fun w h h' x k => Frag.In.keeps x k) (fun _ _ _ _ _ => trivial) (by rfl) (by rfl) (by rfl) rfl (by assumption) (by kernel_rfl) ⟨rfl, rfl, rfl, rfl, rfl, by decide +kernel⟩ ?hw ?call
  case hw => exact ⟨[.list []], by decide +kernel, by decide +kernel⟩
  case call =>
    k_fill
    intro w s₀ s₁ mg mb G Y fa o pm cd doc dV kV ho hd hcd hD hmg hg args vals as hpre hlay hrd hwl hlo
    have KX := Y
    refine Ground.open G ?_
    intro T B D TE TW
    try (refine guard_noD D (by decide +kernel) ?_; clear D)
    obtain ⟨_, _, M⟩ := bmod_of_top T
    have TA := at_of_top T
    try (obtain ⟨_, _, he, B0⟩ := based_of_top T rfl hmg ho hd; have he' : cd = _ := he; subst he'; clear he)
    clear hmg
    wrow_args hpre hlay hrd hwl hlo
    first | refine callC_kw (enter_call ?_) | refine enter_call ?_ | refine callC_kw (enter_callW ?_) | refine enter_callW ?_ | w_how
    w_top on

    have K0 := below_caller (Top.heap T)
    w_call any ho hd hcd hD T F
    clear hd TA
    k_drop
    all_goals try k_fold
    rename_i h1 tk1 w8 w7 w6 w5 w4 w3 w2 w1 c8 c7 c6 c5 c4 c3 c2 c1 N0 X0
    have hbare : AllBare s₁.gens := by rw [hg]; exact .empty
    have hL167 : @LT.lt Nat _ 167 s₁.heap.objs.size := Heap.lt_size (K1_at KX)
    refine wpAny_mono (wpAny_bare (law_all (h₀ := hideAll s₁.heap [167]) (L := s₁.heap.objs.size) (Q := fun fl s' => fl = .ret (.bool true) ∧ (∃ m' cc, Fr (hideAll s₁.heap [167]) s₁.heap.objs.size s'.heap m' ∧ News (hideAll s₁.heap [167]) s₁.heap.objs.size s'.heap [(167, tabObj #[rawInt 187, rawInt 18, .ref cc])]) ∧ s'.os = s₁.os) (E := fun _ _ => False)
      (rfl : scAt 71 = some _) (below_caller _) (K0_hid KX) (top_hid T KX) ?q1 ?q2 (fr_hid F) ?q3 (news_hid F N0 (K1_at KX) hL167) hL167 ?e1 ?e2 ?e3 ?e4 ?e5 ?e6 ?e7 ?e8 (list_hid KX (by assumption)) (by assumption) ?q5 ?q6) hbare) ?q7 ?q8
    case q1 => decide +kernel
    case q2 => decide +kernel
    case q3 => exact rfl
    case e1 => exact c1.trans rfl
    case e2 => exact c2.trans rfl
    case e3 => exact c3.trans rfl
    case e4 => exact c4.trans rfl
    case e5 => exact c5.trans rfl
    case e6 => exact c6.trans rfl
    case e7 => exact c7.trans rfl
    case e8 => exact c8.trans rfl
    case q5 => omega
    case q6 => exact fun m' cc h' gs tk F' N' => ⟨rfl, ⟨m', cc, F', N'⟩, rfl⟩
    case q8 => exact fun _ _ h => h.1.elim
    case q7 =>
      rintro a s ⟨⟨rfl, ⟨m', cc, F', N'⟩, hos⟩, hb⟩
      dsimp only [qk]
      refine ⟨.inl ⟨_, .bool true, [], rfl, ?r1, ReadsW.bool true, ?r3, fun _ => ⟨.nil, fun _ h => nomatch h⟩⟩, old_hid KX F' N', hos, hb⟩
      case r1 => exact raisesW_false (by wrow_none_raised)
      case r3 => first | wrow_post | kc_post
