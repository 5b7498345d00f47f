import PyProof.Rows.All
import Wide.All
import OpenK.AllK
import Wide.FinOn
import PySem.Challenge.RW_to0082_01
set_option compiler.extract_closed false

section
open PySem PySem.W PyProof.Rows
set_option Elab.async false
set_option maxRecDepth 100000
namespace Mine

/-- an exact evaluator of a tree on a tree-heap: what it hands back and the state behind it -/
noncomputable def evF (den : Code → Sem Fin) (prog : Program) (w : World) : Nat → Ctx → Pos → Sem Fin → SharedT → Option (Result × SharedT)
  | 0, _, _, _, _ => none
  | n + 1, Γ, p, t, s => match t with
    | .pure fin => match fin with
      | .done f => some (.ok f, s)
      | .again c => cond c.quiet (evF den prog w n (Γ.goto c) p (den c) s) none
    | .raise e => some (.error e, s)
    | .rule _ k => evF den prog w n Γ p (k ()) s
    | .at q k => evF den prog w n Γ q (k ()) s
    | .point _ k => evF den prog w n Γ p (k ()) s
    | .ask k => evF den prog w n Γ p (k ⟨prog, w.params⟩) s
    | .load a _ k => match s with
      | ⟨T, m, life, gens, drawn, toks, os⟩ => cond (Nat.blt a m) ((T.get a).bind fun o => (alive o).bind fun o' => evF den prog w n Γ p (k o') ⟨T, m, life, gens, drawn, toks, os⟩) none
    | .update a _ f k => match s with
      | ⟨T, m, life, gens, drawn, toks, os⟩ => cond (Nat.blt a m) ((T.get a).bind fun o => (alive o).bind fun _ => evF den prog w n Γ p (k ()) ⟨T.set a f, m, life, gens, drawn, toks, os⟩) none
    | .alloc o k => match s with
      | ⟨T, m, life, gens, drawn, toks, os⟩ => cond ((T.ins m o).get m).isSome (evF den prog w n Γ p (k m) ⟨T.ins m o, m + 1, life, gens, drawn, toks, os⟩) none
    | .fresh k => match s with
      | ⟨T, m, life, gens, drawn, toks, os⟩ => evF den prog w n Γ p (k toks) ⟨T, m, life, gens, drawn, toks + 1, os⟩
    | .handled own k => evF den prog w n Γ p (k (if own then Γ.own else Γ.handled)) s
    | .stack k => evF den prog w n Γ p (k ((Γ.code, p) :: Γ.below)) s
    | .call c h _ _ k => (evF den prog w n (Γ.enter c h p) p (den c) s).bind fun z => evF den prog w n Γ p (k z.1) z.2
    | _ => none

theorem nope {α : Type} {x : α} {P : Prop} (h : (none : Option α) = some x) : P := nomatch h
theorem condS {α : Type} {b : Bool} {x : Option α} {y : α} (h : cond b x none = some y) : b = true ∧ x = some y := by
  cases b with
  | true => exact ⟨rfl, h⟩
  | false => exact nope h
theorem bindS {α β : Type} {o : Option α} {f : α → Option β} {y : β} (h : o.bind f = some y) : ∃ a, o = some a ∧ f a = some y := by
  cases o with
  | none => exact nope h
  | some a => exact ⟨a, rfl, h⟩
theorem abs_load {T : BT} {m a : Nat} {life : Life} {gens : Array GenState} {drawn : Drawn} {toks : Nat} {os : OsState} {o o' : Obj} (e : Nat.blt a m = true) (g : T.get a = some o) (al : alive o = some o') : (SharedT.mk T m life gens drawn toks os).abs.heap.get? a = some o' := by
  show (absHeap T m life).get? a = _
  rw [abs_get (Nat.le_of_ble_eq_true e) g, al]
theorem evF_runs {den : Code → Sem Fin} {prog : Program} {w : World} : ∀ (n : Nat) (Γ : Ctx) (p : Pos) (t : Sem Fin) (s : SharedT) (r : Result) (s' : SharedT),
    evF den prog w n Γ p t s = some (r, s') → Runs ⟨den, prog, w⟩ Γ p t [] s.abs (.ret r) s'.abs := by
  intro n
  induction n with
  | zero => intro Γ p t s r s' h; exact nope h
  | succ n ih =>
    intro Γ p t s r s' h
    cases t with
    | pure fin =>
      cases fin with
      | done f => obtain ⟨rfl, rfl⟩ := Prod.mk.inj (Option.some.inj h); exact .done
      | again c =>
        obtain ⟨q, h⟩ := condS h
        exact .again q (ih _ _ _ _ _ _ h)
    | raise e => obtain ⟨rfl, rfl⟩ := Prod.mk.inj (Option.some.inj h); exact .raise
    | rule tag k => exact .rule (ih _ _ _ _ _ _ h)
    | «at» q k => exact .at (ih _ _ _ _ _ _ h)
    | point l k => exact .point (ih _ _ _ _ _ _ h)
    | ask k => exact .ask (ih _ _ _ _ _ _ h)
    | load a q k =>
      obtain ⟨T, m, life, gens, drawn, toks, os⟩ := s
      obtain ⟨e, h⟩ := condS h
      obtain ⟨o, g, h⟩ := bindS h
      obtain ⟨o', al, h⟩ := bindS h
      exact .load (abs_load e g al) (ih _ _ _ _ _ _ h)
    | update a q f k =>
      obtain ⟨T, m, life, gens, drawn, toks, os⟩ := s
      obtain ⟨e, h⟩ := condS h
      obtain ⟨o, g, h⟩ := bindS h
      obtain ⟨o', al, h⟩ := bindS h
      refine .update (Option.isSome_of_eq_some (abs_load e g al)) ?_
      have := ih _ _ _ _ _ _ h
      unfold SharedT.abs at this
      dsimp only at this
      rw [absHeap_set g] at this
      exact this
    | alloc o k =>
      obtain ⟨T, m, life, gens, drawn, toks, os⟩ := s
      obtain ⟨e, h⟩ := condS h
      have := ih _ _ _ _ _ _ h
      unfold SharedT.abs at this
      dsimp only at this
      rw [absHeap_ins e] at this
      refine .alloc ?_
      show Runs _ Γ p (k (absHeap T m life).objs.size) [] _ _ _
      rw [absHeap_size]
      exact this
    | fresh k =>
      obtain ⟨T, m, life, gens, drawn, toks, os⟩ := s
      exact .fresh (ih _ _ _ _ _ _ h)
    | handled own k => exact .handled (ih _ _ _ _ _ _ h)
    | stack k => exact .stack (ih _ _ _ _ _ _ h)
    | call c hd gd l k =>
      obtain ⟨⟨r₁, s₁⟩, e, h⟩ := bindS h
      exact .call (ih _ _ _ _ _ _ e) (ih _ _ _ _ _ _ h)
    | _ => exact nope h

/-- the same read as a promise of a tree that hands back a Flow -/
theorem wp_of_evF {prog : Program} {w : World} {Γ : Ctx} {p : Pos} {m : Sem Flow} {s s' : SharedT} {n : Nat} {f : Flow}
    (h : evF (denote table) prog w n Γ p (m.bind fun f => .pure (.done f)) s = some (.ok f, s')) {Q : Flow → Pos → Shared → Prop} {E : Value → Pos → Shared → Prop} (q : ∀ p', Q f p' s'.abs) :
    Sem.wp (model prog w) Γ m Q E p s.abs := by
  have hr := evF_runs n Γ p _ s _ s' h
  have hw := (Sem.wp_iff_runs (model prog w) Γ (m.bind fun f => .pure (.done f)) (fun r x => r = .ok f ∧ x = s'.abs) p s.abs).mpr ⟨_, _, hr, rfl, rfl⟩
  rw [Sem.wp_bind] at hw
  refine Sem.wp_mono _ Γ m (fun f' p' x hx => ?_) (fun e p' x hx => ?_) p s.abs hw
  · obtain ⟨e1, rfl⟩ := hx
    cases e1
    exact q p'
  · exact absurd hx.1 (by intro e; cases e)
end Mine
end

section
open PySem PySem.W PyProof.Rows
set_option Elab.async false
set_option maxRecDepth 100000
namespace Mine

noncomputable def hAdd (h : Heap) (os : List Obj) : Heap := ⟨h.objs ++ os.toArray, h.life⟩
theorem hAdd_nil (h : Heap) : hAdd h [] = h := by unfold hAdd; simp
theorem hAdd_push (h : Heap) (os : List Obj) (o : Obj) : (hAdd h os).push o = hAdd h (os ++ [o]) := by
  unfold hAdd Heap.push
  simp only [Heap.mk.injEq, and_true]
  apply Array.ext'
  simp
theorem hAdd_size (h : Heap) (os : List Obj) : (hAdd h os).objs.size = h.objs.size + os.length := by unfold hAdd; simp
theorem hAdd_at (h : Heap) (os : List Obj) (i : Nat) : (hAdd h os).objs[h.objs.size + i]? = os[i]? := by
  unfold hAdd
  rw [Array.getElem?_append]
  have : ¬ (h.objs.size + i < h.objs.size) := by omega
  simp [this]
theorem mod_at {α : Type} (f : α → α) (a : α) (B : List α) : ∀ A : List α, (A ++ a :: B).modify A.length f = A ++ f a :: B
  | [] => rfl
  | x :: A => congrArg (x :: ·) (mod_at f a B A)
theorem hAdd_upd (h : Heap) (os1 os2 : List Obj) (o : Obj) (f : Obj → Obj) : (hAdd h (os1 ++ o :: os2)).update (h.objs.size + os1.length) f = hAdd h (os1 ++ f o :: os2) := by
  refine congrArg (Heap.mk · h.life) (Array.ext' ?_)
  have := mod_at f o os2 (h.objs.toList ++ os1)
  rw [List.length_append, List.append_assoc, List.append_assoc] at this
  rw [Array.toList_modify, Array.toList_append, Array.toList_append]
  exact this

noncomputable abbrev Ent := Int × Tok × Value
noncomputable def ent (e : Ent) : DictEntry := ⟨hashInt e.1, .int e.1 e.2.1, e.2.2⟩
noncomputable def dOb (E : List Ent) : Obj := { cls := .type "dict", data := .dict (E.map ent).toArray E.length }
theorem hAdd_get (h : Heap) (os1 os2 : List Obj) (E : List Ent) : (hAdd h (os1 ++ dOb E :: os2)).get? (h.objs.size + os1.length) = some (dOb E) := by
  unfold Heap.get?
  rw [hAdd_at]
  simp [dOb]
theorem dOb_push (E : List Ent) (e : Ent) : Obj.mapDictKeys (·.push (ent e)) (dOb E) = dOb (E ++ [e]) := by
  simp [dOb, Obj.mapDictKeys]

section
variable {prog : Program} {w : World} {A : Around} {X : Value → Shared → Prop} {s : Shared} {h : Heap} {os1 os2 : List Obj} {E : List Ent}

theorem keysOf_ent (E : List Ent) : KeysOf (intKind prog w) (E.map ent).toArray := by
  intro e he
  obtain ⟨x, _, rfl⟩ := List.mem_map.mp (List.mem_toArray.mp he)
  exact ⟨x.1, by simp [intKind, Value.isInt, ent], rfl⟩
theorem find_none {c : Int} (hc : c ∉ E.map (·.1)) : ((E.map ent).toArray.findIdx? fun e => (intKind prog w).is c e.key) = none := by
  rw [Array.findIdx?_eq_none_iff]
  intro x hx
  obtain ⟨y, hy, rfl⟩ := List.mem_map.mp (List.mem_toArray.mp hx)
  have : y.1 ≠ c := fun e => hc (e ▸ List.mem_map_of_mem hy)
  simp [intKind, Value.isInt, ent, this]

theorem wp_find {c : Int} {t : Tok} {Q : Option Nat → Shared → Prop} (hs : s.heap = hAdd h (os1 ++ dOb E :: os2)) (hc : c ∉ E.map (·.1)) (q : Q none s) :
    wpAny (model prog w) A (dictFind (h.objs.size + os1.length) (.int c t) (hashInt c)) Q X s := by
  refine wpAny_dictFind_of (knd := intKind prog w) (k := c) (o := dOb E) (es := (E.map ent).toArray) (ep := E.length) (by simp [intKind, Value.isInt]) (by rw [hs, hAdd_get]) rfl (keysOf_ent E) ?_
  rw [find_none hc]; exact q
theorem wp_upd {e : Ent} {part : Option Value} {Q : Unit → Shared → Prop} (hs : s.heap = hAdd h (os1 ++ dOb E :: os2)) (hz : E.length ≤ sizeLine) (q : Q () { s with heap := hAdd h (os1 ++ dOb (E ++ [e]) :: os2) }) :
    wpAny (model prog w) A (updateDictKeys (h.objs.size + os1.length) (·.push (ent e)) part) Q X s := by
  refine wpAny_updateDictKeys (o := dOb E) (es := (E.map ent).toArray) (ep := E.length) (by rw [hs, hAdd_get]) rfl ?_ (by simpa using hz) (by simp)
  rw [hs, hAdd_upd, dOb_push]; exact q

theorem wp_put {c : Int} {t : Tok} {v : Value} {Q : Unit → Shared → Prop} (hs : s.heap = hAdd h (os1 ++ dOb E :: os2)) (hc : c ∉ E.map (·.1)) (hz : E.length ≤ sizeLine)
    (q : Q () { s with heap := hAdd h (os1 ++ dOb (E ++ [(c, t, v)]) :: os2) }) :
    wpAny (model prog w) A (dictPut (h.objs.size + os1.length) (hashInt c) (.int c t) v) Q X s := by
  unfold dictPut
  exact wpAny_bind (wp_find hs hc (wp_upd (e := (c, t, v)) hs hz q))
theorem wp_set {c : Int} {t : Tok} {v : Value} {Q : Unit → Shared → Prop} (hs : s.heap = hAdd h (os1 ++ dOb E :: os2)) (hc : c ∉ E.map (·.1)) (hz : E.length ≤ sizeLine)
    (q : Q () { s with heap := hAdd h (os1 ++ dOb (E ++ [(c, t, v)]) :: os2), toks := s.toks + 1 }) :
    wpAny (model prog w) A (dictSet (h.objs.size + os1.length) (.int c t) v) Q X s := by
  unfold dictSet
  refine wpAny_holding (wpAny_bind ?_)
  refine (intKind prog w).pyHash (k := c) (by simp [intKind, Value.isInt]) ?_
  unfold dictSetHashed
  refine wpAny_holding (wpAny_bind ?_)
  refine wp_find (s := { s with toks := s.toks + 1 }) hs hc ?_
  refine wpAny_bind (wpAny_rule ?_)
  exact wp_upd (s := { s with toks := s.toks + 1 }) (e := (c, t, v)) hs hz q

/-- one pair of the display: an int's and a text's constant -/
noncomputable def pairT (pos : Pos) (x : Int × Str) : Sem Value × Sem Value := (mkInt x.1, do let y ← mkText x.2; standAt pos; pure y)

noncomputable def longE : List (Int × Str) → Nat → List Ent
  | [], _ => []
  | (c, v) :: r, t => (c, t, .str v (t + 1)) :: longE r (t + 3)
noncomputable def shortE : List (Int × Str) → Nat → List Ent
  | [], _ => []
  | (c, v) :: r, t => (c, t, .str v (t + 1)) :: shortE r (t + 2)
theorem longE_keys : ∀ (L : List (Int × Str)) (t : Nat), (longE L t).map (·.1) = L.map (·.1)
  | [], _ => rfl
  | (c, v) :: r, t => by simp [longE, longE_keys r]
theorem shortE_keys : ∀ (L : List (Int × Str)) (t : Nat), (shortE L t).map (·.1) = L.map (·.1)
  | [], _ => rfl
  | (c, v) :: r, t => by simp [shortE, shortE_keys r]
theorem longE_len (L : List (Int × Str)) (t : Nat) : (longE L t).length = L.length := by
  have := congrArg List.length (longE_keys L t); simpa using this
theorem shortE_len (L : List (Int × Str)) (t : Nat) : (shortE L t).length = L.length := by
  have := congrArg List.length (shortE_keys L t); simpa using this

theorem wp_long (pos : Pos) : ∀ (L : List (Int × Str)) (E : List Ent) (s : Shared) (Q : PUnit → Shared → Prop), s.heap = hAdd h (os1 ++ dOb E :: os2) → (E.map (·.1) ++ L.map (·.1)).Nodup → E.length + L.length ≤ sizeLine →
    Q PUnit.unit { s with heap := hAdd h (os1 ++ dOb (E ++ longE L s.toks) :: os2), toks := s.toks + 3 * L.length } →
    wpAny (model prog w) A (forIn (L.map (pairT pos)) PUnit.unit fun (x : Sem Value × Sem Value) (_ : PUnit) => (do
      let kv ← x.1
      let vv ← holding [kv] x.2
      holding [kv, vv] (dictSet (h.objs.size + os1.length) kv vv)
      pure (ForInStep.yield PUnit.unit) : Sem (ForInStep PUnit))) Q X s
  | [], E, s, Q, hs, _, _, q => by
    rw [List.map_nil, List.forIn_nil]
    refine wpAny_pure ?_
    have e : s = { s with heap := hAdd h (os1 ++ dOb (E ++ longE [] s.toks) :: os2), toks := s.toks + 3 * ([] : List (Int × Str)).length } := by
      obtain ⟨a, b, c, d, e⟩ := s
      simp only [longE, List.append_nil, List.length_nil, Nat.mul_zero, Nat.add_zero] at hs ⊢
      rw [← hs]
    rw [e]; exact q
  | (c, v) :: L, E, s, Q, hs, hn, hz, q => by
    rw [List.map_cons, List.forIn_cons]
    refine wpAny_bind (wpAny_bind (wpAny_mkInt ?_))
    refine wpAny_bind (wpAny_holding ?_)
    refine wpAny_bind (wpAny_mkText (wpAny_bind (wpAny_standAt (wpAny_pure ?_))))
    rw [List.length_cons] at hz
    refine wpAny_bind (wpAny_holding ?_)
    have hc : c ∉ E.map (·.1) := by
      intro hm
      exact (List.nodup_append.mp hn).2.2 c hm c (by simp) rfl
    refine wp_set (E := E) hs hc (by omega) (wpAny_pure ?_)
    refine wp_long pos L (E ++ [(c, s.toks, .str v (s.toks + 1))]) _ Q rfl (by simpa using hn) (by simp; omega) ?_
    simpa [longE, Nat.add_assoc, Nat.mul_add, Nat.add_comm, Nat.add_left_comm] using q

theorem wp_evalPairs (pos : Pos) : ∀ (L : List (Int × Str)) (s : Shared) (Q : List (Value × Value) → Shared → Prop),
    Q ((shortE L s.toks).map fun e => (.int e.1 e.2.1, e.2.2)) { s with toks := s.toks + 2 * L.length } → wpAny (model prog w) A (evalPairs (L.map (pairT pos))) Q X s
  | [], s, Q, q => evalPairs_nil q
  | (c, v) :: L, s, Q, q => by
    rw [List.map_cons]
    refine evalPairs_cons (wpAny_mkInt (wpAny_bind (wpAny_mkText (wpAny_bind (wpAny_standAt (wpAny_pure ?_))))))
    refine wp_evalPairs pos L _ _ ?_
    simpa [shortE, Nat.add_assoc, Nat.mul_add, Nat.add_comm, Nat.add_left_comm] using q

theorem wp_stores : ∀ (M E : List Ent) (s : Shared) (Q : PUnit → Shared → Prop), s.heap = hAdd h (os1 ++ dOb E :: os2) → (E.map (·.1) ++ M.map (·.1)).Nodup → E.length + M.length ≤ sizeLine →
    Q PUnit.unit { s with heap := hAdd h (os1 ++ dOb (E ++ M) :: os2), toks := s.toks + M.length } →
    wpAny (model prog w) A (forIn (M.map fun e => ((.int e.1 e.2.1 : Value), e.2.2)) PUnit.unit fun (x : Value × Value) (_ : PUnit) => (do
      dictSet (h.objs.size + os1.length) x.1 x.2
      pure (ForInStep.yield PUnit.unit) : Sem (ForInStep PUnit))) Q X s
  | [], E, s, Q, hs, _, _, q => by
    rw [List.map_nil, List.forIn_nil]
    refine wpAny_pure ?_
    have e : s = { s with heap := hAdd h (os1 ++ dOb (E ++ []) :: os2), toks := s.toks + ([] : List Ent).length } := by
      obtain ⟨a, b, c, d, e⟩ := s
      simp only [List.append_nil, List.length_nil, Nat.add_zero] at hs ⊢
      rw [← hs]
    rw [e]; exact q
  | (c, t, v) :: M, E, s, Q, hs, hn, hz, q => by
    rw [List.map_cons, List.forIn_cons]
    rw [List.length_cons] at hz
    have hc : c ∉ E.map (·.1) := by
      intro hm
      exact (List.nodup_append.mp hn).2.2 c hm c (by simp) rfl
    refine wpAny_bind (wpAny_bind (wp_set (E := E) hs hc (by omega) (wpAny_pure ?_)))
    refine wp_stores M (E ++ [(c, t, v)]) _ Q rfl (by simpa using hn) (by simp; omega) ?_
    simpa [Nat.add_assoc, Nat.add_comm, Nat.add_left_comm] using q

/-- the entries that one batch lays, and the object -/
noncomputable def batch (L : List (Int × Str)) (t : Nat) : List Ent := if L.length ≤ 15 then shortE L t else longE L t
theorem batch_keys (L : List (Int × Str)) (t : Nat) : (batch L t).map (·.1) = L.map (·.1) := by
  unfold batch; split
  · exact shortE_keys L t
  · exact longE_keys L t
theorem batch_len (L : List (Int × Str)) (t : Nat) : (batch L t).length = L.length := by
  have := congrArg List.length (batch_keys L t); simpa using this

theorem wp_subDict (pos : Pos) {L : List (Int × Str)} {os : List Obj} {Q : Addr → Shared → Prop} (hs : s.heap = hAdd h os) (hn : (L.map (·.1)).Nodup) (hz : L.length ≤ sizeLine)
    (q : Q (h.objs.size + os.length) { s with heap := hAdd h (os ++ [dOb (batch L s.toks)]), toks := s.toks + 3 * L.length }) :
    wpAny (model prog w) A (subDict (L.map (pairT pos))) Q X s := by
  unfold subDict
  refine wpAny_bind (wpAny_alloc ?_)
  rw [hs, hAdd_push, hAdd_size]
  refine wpAny_bind (wpAny_holding ?_)
  rw [List.length_map]
  unfold batch at q
  by_cases hl : L.length ≤ 15
  · rw [if_pos hl]
    rw [if_pos hl] at q
    refine wpAny_bind (wp_evalPairs pos L _ _ ?_)
    refine wpAny_holding (wpAny_bind (wp_stores (h := h) (os1 := os) (os2 := []) (shortE L s.toks) [] _ _ rfl ?_ ?_ (wpAny_pure (wpAny_pure ?_))))
    · simpa [shortE_keys] using hn
    · simpa [shortE_len] using hz
    · have e : s.toks + 2 * L.length + (shortE L s.toks).length = s.toks + 3 * L.length := by rw [shortE_len]; omega
      simpa [e] using q
  · rw [if_neg hl]
    rw [if_neg hl] at q
    refine wpAny_bind (wpAny_rule (wpAny_bind (wp_long (h := h) (os1 := os) (os2 := []) pos L [] _ _ rfl ?_ ?_ (wpAny_pure (wpAny_pure ?_)))))
    · simpa using hn
    · simpa using hz
    · simpa using q

theorem dict_sub : isSubtype (.type "dict") (.type "dict") = pure true := by rw [isSubtype_type]; kernel_rfl
theorem dict_iter : typeLookup (.type "dict") (Str.ofString "__iter__") = pure (some (.builtin "dict.__iter__")) := by
  rw [typeLookup_type, builtinLookup_eq_fast]; kernel_rfl
theorem wp_typeOf_d {Q : Value → Shared → Prop} (hs : s.heap = hAdd h (os1 ++ dOb E :: os2)) (q : Q (.type "dict") s) : wpAny (model prog w) A (typeOf (.ref (h.objs.size + os1.length))) Q X s := by
  unfold typeOf
  exact wpAny_bind (wpAny_loadPart (by rw [hs, hAdd_get]) (wpAny_pure q))

theorem wp_merge {osB : List Obj} {M : List Ent} {Q : Unit → Shared → Prop} (hs : s.heap = hAdd h (dOb E :: (osB ++ [dOb M]))) (hlow : sysModules < h.objs.size) (hE : E ≠ [])
    (hn : (E.map (·.1) ++ M.map (·.1)).Nodup) (hz : E.length + M.length ≤ sizeLine) (q : Q () { s with heap := hAdd h (dOb (E ++ M) :: (osB ++ [dOb M])) }) :
    wpAny (model prog w) A (mergeMapping h.objs.size (.ref (h.objs.size + (osB.length + 1))) false) Q X s := by
  have em : ∀ F : List Ent, hAdd h (dOb F :: (osB ++ [dOb M])) = hAdd h ((dOb F :: osB) ++ dOb M :: []) := fun F => by simp
  have ed : ∀ F : List Ent, hAdd h (dOb F :: (osB ++ [dOb M])) = hAdd h ([] ++ dOb F :: (osB ++ [dOb M])) := fun F => by simp
  have lm : ∀ F : List Ent, h.objs.size + (osB.length + 1) = h.objs.size + (dOb F :: osB).length := fun F => by simp
  have hm : s.heap.get? (h.objs.size + (osB.length + 1)) = some (dOb M) := by rw [hs, em, lm E, hAdd_get]
  have hd : s.heap.get? h.objs.size = some (dOb E) := by rw [hs, ed]; exact hAdd_get h [] _ E
  unfold mergeMapping
  refine wpAny_bind ?_
  unfold isInstance
  refine wpAny_bind ?_
  rw [lm E]
  refine wp_typeOf_d (hs.trans (em E)) ?_
  rw [dict_sub]
  refine wpAny_pure ?_
  refine wpAny_bind ?_
  unfold specialOf
  refine wpAny_bind (wp_typeOf_d (hs.trans (em E)) ?_)
  rw [dict_iter]
  refine wpAny_pure ?_
  refine wpAny_bind (wpAny_pure ?_)
  show wpAny _ _ (if (h.objs.size + (dOb E :: osB).length == sysModules) = true then _ else _) _ _ _
  have hne : (h.objs.size + (dOb E :: osB).length == sysModules) = false := by
    rw [beq_eq_false_iff_ne]; exact Nat.ne_of_gt (Nat.lt_of_lt_of_le hlow (Nat.le_add_right _ _))
  rw [if_neg (by rw [hne]; exact Bool.false_ne_true)]
  refine wpAny_bind (wpAny_dictEntries hd rfl ?_)
  rw [if_neg (by cases E with | nil => exact absurd rfl hE | cons x r => simp)]
  rw [← lm E]
  refine wpAny_bind (wpAny_dictEntries hm rfl ?_)
  refine wpAny_bind (wpAny_dictEpoch hm rfl ?_)
  refine wpAny_bind ?_
  refine wpAny_forIn_list _ (fun rest _ s' => ∃ i, i ≤ M.length ∧ rest = List.range' i (M.length - i) ∧ s' = { s with heap := hAdd h (dOb (E ++ M.take i) :: (osB ++ [dOb M])) }) _ ?_ ?_ _ _ ?_
  · rintro x rest u s' ⟨i, hi, hr, rfl⟩
    obtain ⟨k, hk⟩ : ∃ k, M.length - i = k + 1 := by
      cases hq : M.length - i with
      | zero => rw [hq] at hr; cases hr
      | succ k => exact ⟨k, rfl⟩
    rw [hk, List.range'_succ] at hr
    obtain ⟨rfl, rfl⟩ := List.cons.inj hr
    have hlt : x < M.length := by omega
    have hm' : (hAdd h (dOb (E ++ M.take x) :: (osB ++ [dOb M]))).get? (h.objs.size + (osB.length + 1)) = some (dOb M) := by rw [em, lm (E ++ M.take x), hAdd_get]
    refine wpAny_bind (wpAny_dictEntries (o := dOb M) hm' rfl ?_)
    have hget : (List.map ent M).toArray[x]? = some (ent M[x]) := by simp [hlt]
    rw [hget]
    refine wpAny_bind (wpAny_holding ?_)
    rw [if_neg Bool.false_ne_true]
    refine wp_put (h := h) (os1 := []) (os2 := osB ++ [dOb M]) (E := E ++ M.take x) (c := M[x].1) (t := M[x].2.1) (v := M[x].2.2) rfl ?_ ?_ ?_
    · intro hc
      rw [List.map_append, List.mem_append] at hc
      rcases hc with hc | hc
      · exact (List.nodup_append.mp hn).2.2 _ hc M[x].1 (List.mem_map_of_mem (List.getElem_mem hlt)) rfl
      · have nM := (List.nodup_append.mp hn).2.1
        obtain ⟨y, hy, hyx⟩ := List.mem_map.mp hc
        obtain ⟨j, hj, rfl⟩ := List.getElem_of_mem hy
        rw [List.length_take] at hj
        rw [List.getElem_take] at hyx
        have := (List.pairwise_iff_getElem.mp nM) j x (by simp; omega) (by simpa using hlt) (by omega)
        apply this
        simpa using hyx
    · simp; omega
    · have e2 : E ++ M.take x ++ [(M[x].1, M[x].2.1, M[x].2.2)] = E ++ M.take (x + 1) := by
        rw [List.append_assoc]
        exact congrArg (E ++ ·) (List.take_append_getElem hlt)
      refine wpAny_bind (wpAny_dictEpoch (o := dOb M) (es := (M.map ent).toArray) (ep := M.length) ?_ rfl ?_)
      · show (hAdd h (dOb (E ++ M.take x ++ _) :: (osB ++ [dOb M]))).get? _ = _
        rw [em, lm (E ++ M.take x ++ [(M[x].1, M[x].2.1, M[x].2.2)]), hAdd_get]
      · rw [if_neg (by simp)]
        refine wpAny_pure ⟨x + 1, by omega, by rw [show M.length - (x + 1) = k by omega], ?_⟩
        show _ = _
        rw [← e2]
        rfl
  · rintro u s' ⟨i, hi, hr, rfl⟩
    have : i = M.length := by
      cases hq : M.length - i with
      | zero => omega
      | succ k => rw [hq] at hr; cases hr
    subst this
    rw [List.take_length]
    exact wpAny_pure q
  · refine ⟨0, Nat.zero_le _, by rw [List.size_toArray, List.length_map, List.range_eq_range', Nat.sub_zero], ?_⟩
    rw [List.take_zero, List.append_nil, ← hs]

noncomputable abbrev St := Option (List Ent × List Obj)
noncomputable def flushS (run : List (Int × Str)) (st : St) (t : Nat) : St := match st with
  | none => some (batch run t, [])
  | some (M, os) => some (M ++ batch run t, os ++ [dOb (batch run t)])
noncomputable def stObjs : St → List Obj
  | none => []
  | some (M, os) => dOb M :: os
noncomputable def stMain (h : Heap) : St → Option Addr
  | none => none
  | some _ => some h.objs.size
noncomputable def stKeys : St → List Int
  | none => []
  | some (M, _) => M.map (·.1)
noncomputable def dgo : List (Int × Str) → List (Int × Str) → St → Nat → St × Nat
  | [], run, st, t => if run.isEmpty then (st, t) else (flushS run st t, t + 3 * run.length)
  | x :: r, run, st, t => if run.length + 1 = 17 then dgo r [] (flushS (run ++ [x]) st t) (t + 51) else dgo r (run ++ [x]) st t

theorem wp_flush (pos : Pos) {run : List (Int × Str)} {st : St} {Q : Option Addr → Shared → Prop} (hs : s.heap = hAdd h (stObjs st)) (hlow : sysModules < h.objs.size)
    (hne : ∀ M os, st = some (M, os) → M ≠ []) (hn : (stKeys st ++ run.map (·.1)).Nodup) (hz : (stKeys st).length + run.length ≤ sizeLine)
    (q : Q (some h.objs.size) { s with heap := hAdd h (stObjs (flushS run st s.toks)), toks := s.toks + 3 * run.length }) :
    wpAny (model prog w) A (match stMain h st with
      | none => do return some (← subDict (run.map (pairT pos)))
      | some d => do
        let sub ← holding [.ref d] (subDict (run.map (pairT pos)))
        (holding [.ref d, .ref sub] (mergeMapping d (.ref sub) false)).onRaise fun x => do let _ ← holding [.ref d, x] (runValue (.builtin "proto.let_go" {}))
        return some d) Q X s := by
  cases st with
  | none =>
    refine wpAny_bind (wp_subDict (h := h) (os := []) pos hs (by simpa [stKeys] using hn) (by simpa [stKeys] using hz) (wpAny_pure ?_))
    simpa [flushS, stObjs] using q
  | some x =>
    obtain ⟨M, os⟩ := x
    have hn' : (run.map (·.1)).Nodup := (List.nodup_append.mp hn).2.1
    refine wpAny_bind (wpAny_holding (wp_subDict (h := h) (os := dOb M :: os) pos hs hn' (by omega) ?_))
    refine wpAny_bind (wpAny_onRaise (wpAny_holding ?_))
    refine wp_merge (h := h) (osB := os) (E := M) (M := batch run s.toks) (by simp) hlow (hne M os rfl) ?_ ?_ ?_
    · simpa [batch_keys, stKeys] using hn
    · simpa [batch_len, stKeys] using hz
    · exact wpAny_pure (by simpa [flushS, stObjs] using q)

theorem disp_loop (pos : Pos) (f : (Option (Sem Value) × Sem Value) → (Option Addr × List (Sem Value × Sem Value)) → Sem (ForInStep (Option Addr × List (Sem Value × Sem Value)))) (hlow : sysModules < h.objs.size)
    (hf1 : ∀ (x : Int × Str) (run : List (Int × Str)) (main : Option Addr) (s : Shared) (Q : ForInStep (Option Addr × List (Sem Value × Sem Value)) → Shared → Prop), run.length + 1 < 17 →
      Q (.yield (main, (run ++ [x]).map (pairT pos))) s → wpAny (model prog w) A (f (some (pairT pos x).1, (pairT pos x).2) (main, run.map (pairT pos))) Q X s)
    (hf2 : ∀ (x : Int × Str) (run : List (Int × Str)) (st : St) (s : Shared) (Q : ForInStep (Option Addr × List (Sem Value × Sem Value)) → Shared → Prop), run.length + 1 = 17 → s.heap = hAdd h (stObjs st) →
      (∀ M os, st = some (M, os) → M ≠ []) → (stKeys st ++ (run ++ [x]).map (·.1)).Nodup → (stKeys st).length + (run ++ [x]).length ≤ sizeLine →
      Q (.yield (some h.objs.size, [])) { s with heap := hAdd h (stObjs (flushS (run ++ [x]) st s.toks)), toks := s.toks + 51 } →
      wpAny (model prog w) A (f (some (pairT pos x).1, (pairT pos x).2) (stMain h st, run.map (pairT pos))) Q X s) :
    ∀ (L run : List (Int × Str)) (st : St) (s : Shared) (Q : Option Addr × List (Sem Value × Sem Value) → Shared → Prop), run.length < 17 → s.heap = hAdd h (stObjs st) → (∀ M os, st = some (M, os) → M ≠ []) →
      (stKeys st ++ run.map (·.1) ++ L.map (·.1)).Nodup → (stKeys st).length + run.length + L.length ≤ sizeLine →
      (∀ run' st' s', run'.length < 17 → s'.heap = hAdd h (stObjs st') → (∀ M os, st' = some (M, os) → M ≠ []) → (stKeys st' ++ run'.map (·.1)).Nodup → (stKeys st').length + run'.length ≤ sizeLine →
        dgo [] run' st' s'.toks = dgo L run st s.toks → s' = { s with heap := s'.heap, toks := s'.toks } → Q (stMain h st', run'.map (pairT pos)) s') →
      wpAny (model prog w) A (forIn (L.map fun x => (some (pairT pos x).1, (pairT pos x).2)) (stMain h st, run.map (pairT pos)) f) Q X s
  | [], run, st, s, Q, hr, hs, hne, hn, hz, q => by
    rw [List.map_nil, List.forIn_nil]
    exact wpAny_pure (q run st s hr hs hne (by simpa using hn) (by simpa using hz) rfl rfl)
  | x :: L, run, st, s, Q, hr, hs, hne, hn, hz, q => by
    rw [List.map_cons, List.forIn_cons]
    rw [List.length_cons] at hz
    refine wpAny_bind ?_
    by_cases h17 : run.length + 1 = 17
    · refine hf2 x run st s _ h17 hs hne ?_ ?_ ?_
      · rw [List.map_append, ← List.append_assoc]
        refine (List.sublist_append_left _ (L.map (·.1))).nodup ?_
        simpa using hn
      · simp; omega
      · have hst : stMain h (flushS (run ++ [x]) st s.toks) = some h.objs.size := by cases st <;> rfl
        have hk : stKeys (flushS (run ++ [x]) st s.toks) = stKeys st ++ (run ++ [x]).map (·.1) := by
          cases st with
          | none => simp [flushS, stKeys, batch_keys]
          | some y => obtain ⟨M, os⟩ := y; simp [flushS, stKeys, batch_keys]
        have := disp_loop pos f hlow hf1 hf2 L [] (flushS (run ++ [x]) st s.toks) { s with heap := hAdd h (stObjs (flushS (run ++ [x]) st s.toks)), toks := s.toks + 51 } Q (by simp) rfl ?_ ?_ ?_ ?_
        · rw [hst] at this; exact this
        · intro M os e hM
          subst hM
          have : stKeys (flushS (run ++ [x]) st s.toks) = [] := by rw [e]; rfl
          rw [hk] at this
          simp at this
        · rw [hk]; simpa using hn
        · rw [hk]; simp; omega
        · intro run' st' s' a b c d e g i
          refine q run' st' s' a b c d e ?_ i
          rw [g]
          show _ = dgo (x :: L) run st s.toks
          rw [dgo, if_pos h17]
    · refine hf1 x run _ s _ (by omega) ?_
      have := disp_loop pos f hlow hf1 hf2 L (run ++ [x]) st s Q (by simp; omega) hs hne (by simpa using hn) (by simp; omega) ?_
      · exact this
      · intro run' st' s' a b c d e g i
        refine q run' st' s' a b c d e ?_ i
        rw [g]
        show _ = dgo (x :: L) run st s.toks
        rw [dgo, if_neg h17]

theorem wp_display (pos : Pos) {L : List (Int × Str)} {Q : Value → Shared → Prop} (h0 : L ≠ []) (hlow : sysModules < s.heap.objs.size) (hn : (L.map (·.1)).Nodup) (hz : L.length ≤ sizeLine)
    (q : Q (.ref s.heap.objs.size) { s with heap := hAdd s.heap (stObjs (dgo L [] none s.toks).1), toks := (dgo L [] none s.toks).2 }) :
    wpAny (model prog w) A (dictDisplay (L.map fun x => (some (pairT pos x).1, (pairT pos x).2))) Q X s := by
  unfold dictDisplay
  dsimp only
  refine wpAny_bind ?_
  refine disp_loop (h := s.heap) pos _ hlow ?_ ?_ L [] none s _ (by simp) (hAdd_nil _).symm (by intro _ _ e; cases e) (by simpa [stKeys] using hn) (by simpa [stKeys] using hz) ?_
  · intro x run main s Q hr q
    dsimp only
    have e : run.map (pairT pos) ++ [((pairT pos x).1, (pairT pos x).2)] = (run ++ [x]).map (pairT pos) := by simp
    rw [e, if_neg (by simp; omega)]
    exact wpAny_pure q
  · intro x run st s' Q hr hs hne hn hz q
    dsimp only
    have e : run.map (pairT pos) ++ [((pairT pos x).1, (pairT pos x).2)] = (run ++ [x]).map (pairT pos) := by simp
    rw [e, if_pos (by simp; omega), if_neg (by simp)]
    refine wpAny_bind (wp_flush pos (run := run ++ [x]) hs hlow hne hn hz (wpAny_pure ?_))
    have : 3 * (run ++ [x]).length = 51 := by simp; omega
    rw [this]; exact q
  · intro run' st' s' hr hs hne hn hz hg he
    dsimp only
    have hemp : (run'.map (pairT pos)).isEmpty = run'.isEmpty := by cases run' <;> rfl
    rw [hemp]
    have hst : ∀ st'' : St, (dgo L [] none s.toks).1 = st'' → st'' ≠ none := by
      intro st'' e e2
      subst e2
      have hd : ∀ (L : List (Int × Str)) (run : List (Int × Str)) (st : St) (t : Nat), (st ≠ none ∨ run ≠ [] ∨ L ≠ []) → (dgo L run st t).1 ≠ none := by
        intro L
        induction L with
        | nil =>
          intro run st t h
          unfold dgo
          cases run with
          | nil => simpa using h
          | cons y r => cases st <;> simp [flushS]
        | cons y r ih =>
          intro run st t h
          unfold dgo
          split
          · exact ih _ _ _ (.inl (by cases st <;> simp [flushS]))
          · exact ih _ _ _ (.inr (.inl (by simp)))
      exact hd L [] none s.toks (.inr (.inr h0)) e
    cases run' with
    | nil =>
      rw [if_pos (show ([] : List (Int × Str)).isEmpty = true from rfl)]
      refine wpAny_bind (wpAny_pure ?_)
      have g : dgo L [] none s.toks = (st', s'.toks) := hg.symm
      cases st' with
      | none => exact absurd rfl (hst none (by rw [g]))
      | some y =>
        refine wpAny_pure ?_
        rw [g] at q
        rw [he, hs]; exact q
    | cons y r =>
      rw [if_neg (by simp)]
      refine wpAny_bind (wp_flush pos hs hlow hne hn hz (wpAny_pure ?_))
      have g : dgo L [] none s.toks = (flushS (y :: r) st' s'.toks, s'.toks + 3 * (y :: r).length) := hg.symm
      rw [g] at q
      rw [he]; exact q
end
end Mine
end

section
open PySem PySem.W PyProof.Rows
set_option Elab.async false
set_option maxRecDepth 100000
namespace Mine

/-- the exact evaluator for any tree: value, place, state -/
noncomputable def evW (den : Code → Sem Fin) (prog : Program) (w : World) {α : Type} : Nat → Ctx → Pos → Sem α → SharedT → Option (α × Pos × SharedT)
  | 0, _, _, _, _ => none
  | n + 1, Γ, p, t, s => match t with
    | .pure a => some (a, p, s)
    | .rule _ k => evW den prog w n Γ p (k ()) s
    | .at q k => evW den prog w n Γ q (k ()) s
    | .point _ k => evW den prog w n Γ p (k ()) s
    | .ask k => evW den prog w n Γ p (k ⟨prog, w.params⟩) s
    | .load a _ k => match s with
      | ⟨T, m, life, gens, drawn, toks, os⟩ => cond (Nat.blt a m) ((T.get a).bind fun o => (alive o).bind fun o' => evW den prog w n Γ p (k o') ⟨T, m, life, gens, drawn, toks, os⟩) none
    | .update a _ f k => match s with
      | ⟨T, m, life, gens, drawn, toks, os⟩ => cond (Nat.blt a m) ((T.get a).bind fun o => (alive o).bind fun _ => evW den prog w n Γ p (k ()) ⟨T.set a f, m, life, gens, drawn, toks, os⟩) none
    | .alloc o k => match s with
      | ⟨T, m, life, gens, drawn, toks, os⟩ => cond ((T.ins m o).get m).isSome (evW den prog w n Γ p (k m) ⟨T.ins m o, m + 1, life, gens, drawn, toks, os⟩) none
    | .fresh k => match s with
      | ⟨T, m, life, gens, drawn, toks, os⟩ => evW den prog w n Γ p (k toks) ⟨T, m, life, gens, drawn, toks + 1, os⟩
    | .handled own k => evW den prog w n Γ p (k (if own then Γ.own else Γ.handled)) s
    | .stack k => evW den prog w n Γ p (k ((Γ.code, p) :: Γ.below)) s
    | .call c h _ _ k => (evF den prog w n (Γ.enter c h p) p (den c) s).bind fun z => evW den prog w n Γ p (k z.1) z.2
    | _ => none

theorem evW_wp {prog : Program} {w : World} {α : Type} {Q : α → Pos → Shared → Prop} {E : Value → Pos → Shared → Prop} : ∀ (n : Nat) (Γ : Ctx) (p : Pos) (t : Sem α) (s : SharedT) (a : α) (p' : Pos) (s' : SharedT),
    evW (denote table) prog w n Γ p t s = some (a, p', s') → Q a p' s'.abs → Sem.wp (model prog w) Γ t Q E p s.abs := by
  intro n
  induction n with
  | zero => intro Γ p t s r p' s' h; exact nope h
  | succ n ih =>
    intro Γ p t s r p' s' h q
    cases t with
    | pure a =>
      cases Option.some.inj h
      exact q
    | rule tag k => exact (by have z := ih _ _ _ _ _ _ _ h q; exact z)
    | «at» q' k => exact (by have z := ih _ _ _ _ _ _ _ h q; exact z)
    | point l k => exact (by have z := ih _ _ _ _ _ _ _ h q; exact z)
    | ask k => exact (by have z := ih _ _ _ _ _ _ _ h q; exact z)
    | load a q' k =>
      obtain ⟨T, m, life, gens, drawn, toks, os⟩ := s
      obtain ⟨e, h⟩ := condS h
      obtain ⟨o, g, h⟩ := bindS h
      obtain ⟨o', al, h⟩ := bindS h
      exact ⟨o', abs_load e g al, ih _ _ _ _ _ _ _ h q⟩
    | update a q' f k =>
      obtain ⟨T, m, life, gens, drawn, toks, os⟩ := s
      obtain ⟨e, h⟩ := condS h
      obtain ⟨o, g, h⟩ := bindS h
      obtain ⟨o', al, h⟩ := bindS h
      refine ⟨Option.isSome_of_eq_some (abs_load e g al), ?_⟩
      have := ih _ _ _ _ _ _ _ h q
      unfold SharedT.abs at this
      dsimp only at this
      rw [absHeap_set g] at this
      exact this
    | alloc o k =>
      obtain ⟨T, m, life, gens, drawn, toks, os⟩ := s
      obtain ⟨e, h⟩ := condS h
      have := ih _ _ _ _ _ _ _ h q
      unfold SharedT.abs at this
      dsimp only at this
      rw [absHeap_ins e] at this
      show Sem.wp _ Γ (k (absHeap T m life).objs.size) _ _ _ _
      rw [absHeap_size]
      exact this
    | fresh k =>
      obtain ⟨T, m, life, gens, drawn, toks, os⟩ := s
      exact (by have z := ih _ _ _ _ _ _ _ h q; exact z)
    | handled own k => exact (by have z := ih _ _ _ _ _ _ _ h q; exact z)
    | stack k => exact (by have z := ih _ _ _ _ _ _ _ h q; exact z)
    | call c hd gd l k =>
      obtain ⟨⟨r₁, s₁⟩, e, h⟩ := bindS h
      exact ⟨_, _, evF_runs _ _ _ _ _ _ _ e, ih _ _ _ _ _ _ _ h q⟩
    | _ => exact nope h

noncomputable def Same (s s' : SharedT) : Prop := s'.life = s.life ∧ s'.gens = s.gens ∧ s'.os = s.os
theorem same_trans {a b c : SharedT} (h : Same a b) (k : Same b c) : Same a c := ⟨k.1.trans h.1, k.2.1.trans h.2.1, k.2.2.trans h.2.2⟩
theorem same_eq {a b : SharedT} (h : a = b) : Same a b := by subst h; exact ⟨rfl, rfl, rfl⟩
theorem evF_keeps {den : Code → Sem Fin} {prog : Program} {w : World} : ∀ (n : Nat) (Γ : Ctx) (p : Pos) (t : Sem Fin) (s : SharedT) (r : Result) (s' : SharedT),
    evF den prog w n Γ p t s = some (r, s') → Same s s' := by
  intro n
  induction n with
  | zero => intro Γ p t s r s' h; exact nope h
  | succ n ih =>
    intro Γ p t s r s' h
    cases t with
    | call c hd gd l k =>
      obtain ⟨⟨r₁, s₁⟩, e, h⟩ := bindS h
      exact same_trans (ih _ _ _ _ _ _ e) (ih _ _ _ _ _ _ h)
    | pure fin =>
      cases fin with
      | done f => exact same_eq (Prod.mk.inj (Option.some.inj h)).2
      | again c => exact ih _ _ _ _ _ _ (condS h).2
    | raise e => exact same_eq (Prod.mk.inj (Option.some.inj h)).2
    | load a q k =>
      obtain ⟨o, g, h⟩ := bindS (condS h).2
      obtain ⟨o', al, h⟩ := bindS h
      exact ih _ _ _ _ _ _ h
    | update a q f k =>
      obtain ⟨o, g, h⟩ := bindS (condS h).2
      obtain ⟨o', al, h⟩ := bindS h
      exact (by have z := ih _ _ _ _ _ _ h; exact z)
    | alloc o k => exact (by have z := ih _ _ _ _ _ _ (condS h).2; exact z)
    | _ => first
      | exact nope h
      | (have z := ih _ _ _ _ _ _ h; exact z)
theorem evW_keeps {den : Code → Sem Fin} {prog : Program} {w : World} {α : Type} : ∀ (n : Nat) (Γ : Ctx) (p : Pos) (t : Sem α) (s : SharedT) (a : α) (p' : Pos) (s' : SharedT),
    evW den prog w n Γ p t s = some (a, p', s') → Same s s' := by
  intro n
  induction n with
  | zero => intro Γ p t s r p' s' h; exact nope h
  | succ n ih =>
    intro Γ p t s r p' s' h
    cases t with
    | call c hd gd l k =>
      obtain ⟨⟨r₁, s₁⟩, e, h⟩ := bindS h
      exact same_trans (evF_keeps _ _ _ _ _ _ _ e) (ih _ _ _ _ _ _ _ h)
    | pure a => exact same_eq (Prod.mk.inj (Prod.mk.inj (Option.some.inj h)).2).2
    | load a q k =>
      obtain ⟨o, g, h⟩ := bindS (condS h).2
      obtain ⟨o', al, h⟩ := bindS h
      exact ih _ _ _ _ _ _ _ h
    | update a q f k =>
      obtain ⟨o, g, h⟩ := bindS (condS h).2
      obtain ⟨o', al, h⟩ := bindS h
      exact (by have z := ih _ _ _ _ _ _ _ h; exact z)
    | alloc o k => exact (by have z := ih _ _ _ _ _ _ _ (condS h).2; exact z)
    | _ => first
      | exact nope h
      | (have z := ih _ _ _ _ _ _ _ h; exact z)

-- more objects at once
noncomputable def insAll : List Obj → Nat → BT → Option BT
  | [], _, t => some t
  | o :: r, i, t => match ((t.ins i o).get i).isSome with
    | true => insAll r (i + 1) (t.ins i o)
    | false => none
theorem insAll_abs {life : Life} : ∀ {os : List Obj} {n : Nat} {t t' : BT}, insAll os n t = some t' → absHeap t' (n + os.length) life = hAdd (absHeap t n life) os
  | [], n, t, t', h => by cases h; rw [hAdd_nil]; rfl
  | o :: r, n, t, t', h => by
    unfold insAll at h
    cases e : ((t.ins n o).get n).isSome with
    | false => rw [e] at h; cases h
    | true =>
      rw [e] at h
      have := insAll_abs (life := life) h
      rw [absHeap_ins e] at this
      rw [List.length_cons, show n + (r.length + 1) = n + 1 + r.length by omega, this]
      unfold hAdd Heap.push
      simp only [Heap.mk.injEq, and_true]
      apply Array.ext'
      simp
noncomputable def toT (s : Shared) : Option SharedT := (insAll s.heap.objs.toList 0 .nil).map fun t => ⟨t, s.heap.objs.size, s.heap.life, s.gens, s.drawn, s.toks, s.os⟩
theorem toT_abs {s : Shared} {x : SharedT} (h : toT s = some x) : x.abs = s := by
  unfold toT at h
  obtain ⟨t, ht, rfl⟩ := Option.map_eq_some_iff.mp h
  have := insAll_abs (life := s.heap.life) ht
  unfold SharedT.abs
  obtain ⟨⟨objs, life⟩, g, d, k, os⟩ := s
  simp only [Shared.mk.injEq, and_true]
  rw [Nat.zero_add] at this
  have e : absHeap BT.nil 0 life = ⟨#[], life⟩ := rfl
  simp only [Array.length_toList] at this
  rw [e] at this
  rw [this]
  simp [hAdd]
noncomputable def addObjs (s : SharedT) (os : List Obj) (k : Nat) : Option SharedT := (insAll os s.n s.tree).map fun t => { s with tree := t, n := s.n + os.length, toks := k }
theorem addObjs_abs {s x : SharedT} {os : List Obj} {k : Nat} (h : addObjs s os k = some x) : x.abs = { s.abs with heap := hAdd s.abs.heap os, toks := k } := by
  unfold addObjs at h
  obtain ⟨t, ht, rfl⟩ := Option.map_eq_some_iff.mp h
  unfold SharedT.abs
  dsimp only
  rw [insAll_abs ht]

-- the display's pairs as they stand in the text
noncomputable def intC : Option Expr → Option Int
  | some (.Constant (.int i) _ _) => some i
  | _ => none
noncomputable def strC : Expr → Option Str
  | .Constant (.str s) _ _ => some s
  | _ => none
theorem intC_is {o : Option Expr} {i : Int} (h : intC o = some i) : ∃ a b, o = some (.Constant (.int i) a b) := by
  cases o with
  | none => exact nope h
  | some e =>
    cases e with
    | Constant c a b =>
      cases c with
      | int j => cases Option.some.inj h; exact ⟨_, _, rfl⟩
      | _ => exact nope h
    | _ => exact nope h
theorem strC_is {o : Expr} {i : Str} (h : strC o = some i) : ∃ a b, o = .Constant (.str i) a b := by
  cases o with
  | Constant c a b =>
    cases c with
    | str j => cases Option.some.inj h; exact ⟨_, _, rfl⟩
    | _ => exact nope h
  | _ => exact nope h
noncomputable def constPairs : List (Option Expr) → List Expr → Option (List (Int × Str))
  | [], l => cond l.isEmpty (some []) none
  | k :: ks, l => l.head?.bind fun v => (intC k).bind fun i => (strC v).bind fun s => (constPairs ks l.tail).map ((i, s) :: ·)
theorem zip_pairs {env : Env} {pos : Pos} : ∀ {ks : List (Option Expr)} {vs : List Expr} {L : List (Int × Str)}, constPairs ks vs = some L →
    (evalEachOpt ks env).zip ((evalEach vs env).map fun v => do let x ← v; standAt pos; pure x) = L.map fun x => (some (pairT pos x).1, (pairT pos x).2) := by
  intro ks
  induction ks with
  | nil => intro vs L h; cases Option.some.inj (condS h).2; rfl
  | cons k ks ih =>
    intro vs L h
    obtain ⟨v, e, h⟩ := bindS h
    obtain ⟨i, hi, h⟩ := bindS h
    obtain ⟨x, hx, h⟩ := bindS h
    obtain ⟨L', h', rfl⟩ := Option.map_eq_some_iff.mp h
    obtain ⟨_, _, rfl⟩ := intC_is hi
    obtain ⟨_, _, rfl⟩ := strC_is hx
    cases vs with
    | nil => exact nope e
    | cons v' vs =>
      cases Option.some.inj e
      rw [List.map_cons, ← ih h']
      rfl
noncomputable def rising : List Int → Bool
  | a :: b :: r => decide (a < b) && rising (b :: r)
  | _ => true
theorem rising_lt : ∀ {l : List Int} {a : Int}, rising (a :: l) = true → ∀ b ∈ l, a < b
  | [], _, _, b, hb => by cases hb
  | c :: l, a, h, b, hb => by
    simp only [rising, Bool.and_eq_true, decide_eq_true_eq] at h
    rcases List.mem_cons.mp hb with rfl | hb
    · exact h.1
    · exact Int.lt_trans h.1 (rising_lt h.2 b hb)
theorem rising_nodup : ∀ {l : List Int}, rising l = true → l.Nodup
  | [], _ => List.nodup_nil
  | a :: l, h => by
    refine List.nodup_cons.mpr ⟨fun hm => absurd (rising_lt h a hm) (Int.lt_irrefl a), rising_nodup ?_⟩
    cases l with
    | nil => rfl
    | cons b r => simp only [rising, Bool.and_eq_true] at h; exact h.2
end Mine
end

section
open PySem PySem.W PyProof.Rows PySem.Calls
set_option Elab.async false
set_option maxRecDepth 100000
namespace Mine

noncomputable def noDone : Step → Prop
  | .halt (.done _) _ => False
  | _ => True
theorem nd_opt {α : Type} {o : Option α} {f : α → Step} {g : Step} (hf : ∀ x, noDone (f x)) (hg : noDone g) : noDone (match o with | some x => f x | none => g) := by
  cases o with
  | none => exact hg
  | some x => exact hf x
theorem nd_ite {c : Prop} {d : Decidable c} {f g : Step} (hf : noDone f) (hg : noDone g) : noDone (@ite Step c d f g) := by
  cases d with
  | isFalse => exact hg
  | isTrue => exact hf
theorem nd_gen {a b d : Step} {f : Code → Step} {q : (Resume → Sem Fin) → List Value → Code → Pos → List Frame → Bool → Step} {o : Option GenState}
    (ha : noDone a) (hb : noDone b) (hd : noDone d) (hf : ∀ c, noDone (f c)) (hq : ∀ x1 x2 x3 x4 x5 x6, noDone (q x1 x2 x3 x4 x5 x6)) :
    noDone (match o with | none => a | some (.fresh c) => f c | some (.suspended x1 x2 x3 x4 x5 x6) => q x1 x2 x3 x4 x5 x6 | some .running => b | some .finished => d) := by
  cases o with
  | none => exact ha
  | some z => cases z with
    | fresh c => exact hf c
    | suspended x1 x2 x3 x4 x5 x6 => exact hq x1 x2 x3 x4 x5 x6
    | running => exact hb
    | finished => exact hd
set_option smartUnfolding false in
theorem step_nd {den : Code → Sem Fin} {prog : Program} {w : World} {s : Shared} {t : Thread} : noDone (step den prog w s t) ∨ through t = true := by
  obtain ⟨heap, gens, drawn, toks, os⟩ := s
  obtain ⟨cur, code, pos, stack⟩ := t
  cases cur with
  | pure fin =>
    cases fin with
    | done f' =>
      cases stack with
      | nil => exact .inr rfl
      | cons fr r => cases fr <;> exact .inl trivial
    | again c => exact .inl trivial
  | raise e =>
    cases stack with
    | nil => exact .inl (nd_ite trivial trivial)
    | cons fr r => cases fr <;> exact .inl trivial
  | finish e => exact .inl (nd_ite trivial trivial)
  | load a q k => refine .inl (nd_opt (fun _ => ?_) ?_) <;> exact trivial
  | update a q f k => exact .inl (nd_ite trivial trivial)
  | choose a n k => exact .inl (nd_ite trivial trivial)
  | genState g k => refine .inl (nd_opt (fun _ => ?_) ?_) <;> exact trivial
  | resume g r l k =>
    refine .inl (nd_gen ?_ ?_ ?_ (fun c => ?_) (fun _ _ _ _ _ _ => ?_))
    any_goals exact trivial
    cases r with
    | throw e => exact trivial
    | send v => cases v <;> exact trivial
  | yield v g l k => refine .inl (nd_opt (fun _ => ?_) ?_) <;> exact trivial
  | _ => exact .inl trivial
theorem step_done {den : Code → Sem Fin} {prog : Program} {w : World} {s s' : Shared} {t : Thread} {f : Flow} (h : step den prog w s t = .halt (.done f) s') : through t = true ∧ s' = s := by
  refine ⟨?_, step_halt_same den prog w _ _ _ _ h⟩
  rcases step_nd (den := den) (prog := prog) (w := w) (s := s) (t := t) with q | q
  · rw [h] at q; exact q.elim
  · exact q

theorem run_before {den : Code → Sem Fin} {prog : Program} {w : World} {o : Outcome} {s' : Shared} : ∀ (n : Nat) (s : Shared) (t : Thread), runN den prog w n s t = .halted o s' →
    ∃ k s₁ t₁, runN den prog w k s t = .running s₁ t₁ ∧ step den prog w s₁ t₁ = .halt o s'
  | 0, s, t, h => by simp [runN] at h
  | n + 1, s, t, h => by
    simp only [runN] at h
    cases hs : step den prog w s t with
    | go s₁ t₁ =>
      simp only [hs] at h
      obtain ⟨k, s₂, t₂, e1, e2⟩ := run_before n s₁ t₁ h
      exact ⟨k + 1, s₂, t₂, by simp only [runN, hs]; exact e1, e2⟩
    | halt o' s₁ =>
      simp only [hs] at h
      injection h with h1 h2
      subst h1 h2
      exact ⟨0, s, t, rfl, hs⟩

theorem top_of_wp {prog : Program} {w : World} {s : Shared} {t : Sem Fin} {P : Shared → Prop} (hz : s.asleep)
    (h : Sem.wp (model prog w) ⟨.builtin "claim.caller" {}, none, none, [], none⟩ t (fun fin _ s' => ∃ f, fin = .done f ∧ P s' ∧ s'.gens = #[]) (fun _ _ _ => False) default s) :
    ∃ s₁ n t₁, schedN (denote table) prog w n (.single s ⟨t, .builtin "claim.caller" {}, default, []⟩) = .running (.single s₁ t₁) ∧ through t₁ = true ∧ P s₁ ∧ s₁.gens = #[] := by
  have h' := Sem.wp_mono (post' := Sem.finPost (model prog w) ⟨.builtin "claim.caller" {}, none, none, [], none⟩ fun r s' => ((∃ f, r = .ok f) ∧ P s' ∧ s'.gens = #[]) ∧ leftWithCleanup s'.gens = false)
    (exc' := fun e _ s' => ((∃ f, (.error e : Result) = .ok f) ∧ P s' ∧ s'.gens = #[]) ∧ leftWithCleanup s'.gens = false) _ _ t
    (fun fin p s' ⟨f, e, h1, h2⟩ => by subst e; exact ⟨⟨⟨f, rfl⟩, h1, h2⟩, by rw [h2]; simp [leftWithCleanup]⟩) (fun _ _ _ h => h.elim) default s h
  obtain ⟨n, r, s', hn, ⟨⟨f, rfl⟩, hP, hg⟩⟩ := (wp_iff_halts (M := model prog w) t (fun r s' => (∃ f, r = .ok f) ∧ P s' ∧ s'.gens = #[]) default s).mp h'
  obtain ⟨s'', hr, hf, hc⟩ := runNI_real (denote table) prog w hn (outcomeOf_ends _)
  obtain rfl := Shared.eq_of_forget_eq hf hg
  have hne : ∀ k s₂, runN (denote table) prog w k s ⟨t, .builtin "claim.caller" {}, default, []⟩ ≠ .halted (.unsupported "lifetime:generator-with-cleanup-left-suspended") s₂ := by
    intro k s₂ hk
    have a := runN_mono (denote table) prog w n k s _ _ _ hr
    have b := runN_mono (denote table) prog w k n s _ _ s₂ hk
    rw [Nat.add_comm, b] at a
    injection a with a1 _
    cases a1
  obtain ⟨k, s₁, t₁, e1, e2⟩ := run_before n s _ hr
  obtain ⟨ht, rfl⟩ := step_done e2
  refine ⟨s'', k, t₁, ?_, ht, hP, hg⟩
  have := schedN_eq_runN (denote table) prog w s ⟨t, .builtin "claim.caller" {}, default, []⟩ hz ⟨hc, hne⟩ k
  rw [this, e1]; rfl
end Mine
end

section
open PySem PySem.W PyProof.Rows
set_option Elab.async false
set_option maxRecDepth 100000
set_option maxHeartbeats 0
namespace Mine
noncomputable abbrev PW := PySem.Challenge.pw_to0082_01
noncomputable def env0 : Env := { scope := PW.main.scope, locals := mainNs, globals := mainNs, cells := [], code := .ref 30, frame := some 31 }
@[irreducible] noncomputable def bodyL : List Stmt := behindTheImports PW
@[irreducible] noncomputable def l1 : List Stmt := bodyL.take 4
@[irreducible] noncomputable def l2 : List Stmt := bodyL.drop 5
noncomputable def Γ0 : Ctx := ⟨.builtin "claim.caller" {}, none, none, [], none⟩
noncomputable def Γ1 : Ctx := Γ0.enter (.body bodyL env0) none default
noncomputable def atRef (n : Nat) : Value → Bool
  | .ref a => Nat.beq a n
  | _ => false
noncomputable def atPos0 (p : Pos) : Bool := Nat.beq p.line 0 && (Nat.beq p.col 0 && (Nat.beq p.endLine 0 && Nat.beq p.endCol 0))
theorem atRef_is {n : Nat} {v : Value} (h : atRef n v = true) : v = .ref n := by
  cases v <;> simp [atRef] at h
  rw [h]
theorem atPos0_is {p : Pos} (h : atPos0 p = true) : p = default := by
  obtain ⟨a, b, c, d⟩ := p
  simp [atPos0] at h
  obtain ⟨rfl, rfl, rfl, rfl⟩ := h
  rfl
/-- the dict statement's parts -/
noncomputable def st5 : Option (List Expr × List (Option Expr) × List Expr × Pos × Pos) := match (bodyL[4]? : Option PySem.Stmt) with
  | some (PySem.Stmt.Assign ts (PySem.Expr.Dict ks vs q) pos) => some (ts, ks, vs, q, pos)
  | _ => none
@[irreducible] noncomputable def ts5 : List Expr := match st5 with | some (ts, _) => ts | none => []
@[irreducible] noncomputable def ks5 : List (Option Expr) := match st5 with | some (_, ks, _) => ks | none => []
@[irreducible] noncomputable def vs5 : List Expr := match st5 with | some (_, _, vs, _) => vs | none => []
@[irreducible] noncomputable def q5 : Pos := match st5 with | some (_, _, _, q, _) => q | none => default
@[irreducible] noncomputable def p5 : Pos := match st5 with | some (_, _, _, _, p) => p | none => default
@[irreducible] noncomputable def L5 : List (Int × Str) := (constPairs ks5 vs5).getD []
theorem st5_is : bodyL = l1 ++ .Assign ts5 (.Dict ks5 vs5 q5) p5 :: l2 := by kernel_rfl
theorem L5_is : constPairs ks5 vs5 = some L5 := by kernel_rfl
theorem L5_keys : rising (L5.map (·.1)) = true := by decide +kernel
theorem L5_len : L5.length = 650 := by decide +kernel

noncomputable def guardB {α : Type} (b : Bool) (x : α) : Option α := match b with
  | true => some x
  | false => none
noncomputable def isNext : Flow → Bool
  | .next => true
  | _ => false
noncomputable def runA (w : World) (s0 : SharedT) : Option (Pos × SharedT) :=
  (evW (denote table) PW w 500 Γ0 default (moduleCode PW.main) s0).bind fun (v, p1, s1) => (guardB (atRef 30 v && atPos0 p1) s1).bind fun s1 =>
  (evW (denote table) PW w 500 Γ0 default (newBodyFrame (.ref 30) mainNs mainNs) s1).bind fun (a, p2, s2) => (guardB (Nat.beq a 31 && atPos0 p2) s2).bind fun s2 =>
  (evW (denote table) PW w 500 Γ1 default (blockStart bodyL env0) s2).bind fun (_, p3, s3) => (guardB (atPos0 p3) s3).bind fun s3 =>
  (evW (denote table) PW w 3000 Γ1 default (execs l1 env0) s3).bind fun (f, p4, s4) => guardB (isNext f && (Nat.beq s4.n 57 && Nat.beq s4.toks 358)) (p4, s4)
@[irreducible] noncomputable def newObjs : List Obj := stObjs (dgo L5 [] none 358).1
noncomputable def runC (w : World) (p : Pos) (s4 : SharedT) : Option SharedT :=
  (addObjs s4 newObjs (dgo L5 [] none 358).2).bind fun s5 =>
  (evW (denote table) PW w 500 Γ1 p (assignStores env0 (.ref 57) none ((assignEach ts5 env0).map (·.2))) s5).bind fun (f, p5, s6) => (guardB (isNext f) s6).bind fun s6 =>
  (evW (denote table) PW w 3000 Γ1 p5 (execs l2 env0) s6).bind fun (f, _, s7) => guardB (isNext f) s7
noncomputable def total (w : World) (p : Pos) : Option (Shared × SharedT) :=
  (fencedOpening treeTable PW w 31000).bind fun s0 => (toT s0).bind fun x0 => (runA w x0).bind fun (_, s4) => (runC w p s4).bind fun s7 => some (s0, s7)
end Mine
end

section
open PySem PySem.W PyProof.Rows PySem.Calls
set_option Elab.async false
set_option maxRecDepth 100000
namespace Mine

theorem wp_execs_app {M : Model} {Γ : Ctx} {env : Env} {Q : Flow → Pos → Shared → Prop} {E : Value → Pos → Shared → Prop} : ∀ (a b : List Stmt) (p : Pos) (s : Shared),
    Sem.wp M Γ (execs a env) (fun f p' s' => match f with | .next => Sem.wp M Γ (execs b env) Q E p' s' | f => Q f p' s') E p s → Sem.wp M Γ (execs (a ++ b) env) Q E p s
  | [], b, p, s, h => h
  | st :: a, b, p, s, h => by
    rw [List.cons_append]
    have e : ∀ x, execs (st :: x) env = (do match ← exec st env with | .next => execs x env | f => pure f) := fun _ => rfl
    rw [e, Sem.wp_bind'] at h
    rw [e, Sem.wp_bind']
    refine Sem.wp_mono _ _ _ (fun f p' s' h' => ?_) (fun _ _ _ e => e) p s h
    cases f with
    | next => exact wp_execs_app a b p' s' h'
    | _ => exact h'

noncomputable def A5 : Around := { handled := none, depth := 1000000, frames := none, guards := none, units := 1000000 }
theorem Γ1_in : Γ1.In A5 := ⟨rfl, by decide +kernel, fun l hl => (nomatch hl), fun g hg => (nomatch hg), by decide +kernel⟩

theorem swaps5 : swapsWithSole ts5 (.Dict ks5 vs5 q5) p5.line env0 = pure false := by kernel_rfl
theorem stores5 : swappedStores ts5 (.Dict ks5 vs5 q5) env0 = pure none := by kernel_rfl
theorem wp_dictG {w : World} {Γ : Ctx} {A : Around} {env : Env} {ts : List Expr} {ks : List (Option Expr)} {vs : List Expr} {q5 p5 : Pos} {L : List (Int × Str)} {Q : Flow → Pos → Shared → Prop} {E : Value → Pos → Shared → Prop} {p : Pos} {s : Shared}
    (hw1 : swapsWithSole ts (.Dict ks vs q5) p5.line env = pure false) (hw2 : swappedStores ts (.Dict ks vs q5) env = pure none) (hΓ : Γ.In A) (hlow : sysModules < s.heap.objs.size) (hL : constPairs ks vs = some L) (h0 : L ≠ []) (hn : (L.map (·.1)).Nodup) (hz : L.length ≤ sizeLine)
    (q : ∀ p', Sem.wp (model PW w) Γ (assignStores env (.ref s.heap.objs.size) none ((assignEach ts env).map (·.2))) Q E p' { s with heap := hAdd s.heap (stObjs (dgo L [] none s.toks).1), toks := (dgo L [] none s.toks).2 }) :
    Sem.wp (model PW w) Γ (exec (.Assign ts (.Dict ks vs q5) p5) env) Q E p s := by
  have e3 : exec (.Assign ts (.Dict ks vs q5) p5) env = (do
      standAt p5
      if ← swapsWithSole ts (.Dict ks vs q5) p5.line env then do
        evalThenUse (.Dict ks vs q5) env fun v => assignAll v ((assignEach ts env).map (·.2))
        pure .next
      else do
        let v ← eval (.Dict ks vs q5) env
        assignStores env v (← swappedStores ts (.Dict ks vs q5) env) ((assignEach ts env).map (·.2))) := rfl
  rw [e3, hw1, hw2, arm_eval_Dict, zip_pairs hL]
  simp only [Sem.wp_bind', Sem.wp_pure', Bool.false_eq_true, if_false]
  have hw : wpAny (model PW w) A (dictDisplay (L.map fun x => (some (pairT q5 x).1, (pairT q5 x).2))) (fun v s' => ∀ p', Sem.wp (model PW w) Γ (assignStores env v none ((assignEach ts env).map (·.2))) Q E p' s') (fun _ _ => False) s :=
    wp_display q5 h0 hlow hn hz q
  show Sem.wp (model PW w) Γ (dictDisplay (L.map fun x => (some (pairT q5 x).1, (pairT q5 x).2))) _ E q5 s
  exact Sem.wp_mono _ _ _ (fun v p' s' h => h p') (fun _ _ _ e => e.elim) q5 s (hw Γ q5 hΓ)

theorem low57 : sysModules < 57 := by decide
theorem guardB_some {α : Type} {b : Bool} {x y : α} (h : guardB b x = some y) : b = true ∧ x = y := by
  cases b with
  | true => exact ⟨rfl, Option.some.inj h⟩
  | false => cases h
theorem isNext_is {f : Flow} (h : isNext f = true) : f = .next := by cases f <;> first | rfl | cases h

theorem stub_is : (topStub PW).cur = (do
    let code ← moduleCode PW.main
    let frame ← newBodyFrame code mainNs mainNs
    let _ ← run (.body bodyL { scope := PW.main.scope, locals := mainNs, globals := mainNs, cells := [], code, frame := some frame })
    ret .none) := by unfold topStub bodyL; rfl
theorem top_wp {w : World} {s0 : Shared} {x0 : SharedT} (hx : toT s0 = some x0) (hg : s0.gens = #[]) {p4 : Pos} {s4 : SharedT} (hA : runA w x0 = some (p4, s4)) {P : Shared → Prop}
    (hC : ∀ p, ∃ s7, runC w p s4 = some s7 ∧ P s7.abs) :
    Sem.wp (model PW w) Γ0 (topStub PW).cur (fun fin _ s' => ∃ f, fin = .done f ∧ P s' ∧ s'.gens = #[]) (fun _ _ _ => False) default s0 := by
  unfold runA at hA
  obtain ⟨⟨v, p1, s1⟩, h1, hA⟩ := Option.bind_eq_some_iff.mp hA
  obtain ⟨s1', g1, hA⟩ := Option.bind_eq_some_iff.mp hA
  obtain ⟨b1, rfl⟩ := guardB_some g1
  obtain ⟨⟨a, p2, s2⟩, h2, hA⟩ := Option.bind_eq_some_iff.mp hA
  obtain ⟨s2', g2, hA⟩ := Option.bind_eq_some_iff.mp hA
  obtain ⟨b2, rfl⟩ := guardB_some g2
  obtain ⟨⟨u, p3, s3⟩, h3, hA⟩ := Option.bind_eq_some_iff.mp hA
  obtain ⟨s3', g3, hA⟩ := Option.bind_eq_some_iff.mp hA
  obtain ⟨b3, rfl⟩ := guardB_some g3
  obtain ⟨⟨f, p4', s4'⟩, h4, g4⟩ := Option.bind_eq_some_iff.mp hA
  obtain ⟨b4, e4⟩ := guardB_some g4
  obtain ⟨rfl, rfl⟩ := Prod.mk.inj e4
  obtain ⟨c1, c2⟩ := Bool.and_eq_true_iff.mp b1
  obtain ⟨c3, c4⟩ := Bool.and_eq_true_iff.mp b2
  obtain ⟨c5, c6⟩ := Bool.and_eq_true_iff.mp b4
  obtain ⟨c6, c7⟩ := Bool.and_eq_true_iff.mp c6
  obtain rfl := atRef_is c1
  obtain rfl := atPos0_is c2
  obtain rfl := Nat.eq_of_beq_eq_true c3
  obtain rfl := atPos0_is c4
  obtain rfl := atPos0_is b3
  obtain rfl := isNext_is c5
  have n57 := Nat.eq_of_beq_eq_true c6
  have t358 := Nat.eq_of_beq_eq_true c7
  have k1 := evW_keeps _ _ _ _ _ _ _ _ h1
  have k2 := evW_keeps _ _ _ _ _ _ _ _ h2
  have k3 := evW_keeps _ _ _ _ _ _ _ _ h3
  have k4 := evW_keeps _ _ _ _ _ _ _ _ h4
  have g4 : s4'.gens = #[] := by
    rw [k4.2.1, k3.2.1, k2.2.1, k1.2.1]
    have := congrArg Shared.gens (toT_abs hx)
    exact this.trans hg
  rw [← toT_abs hx]
  rw [stub_is, Sem.wp_bind']
  refine evW_wp 500 Γ0 default _ x0 _ _ s1 h1 ?_
  rw [Sem.wp_bind']
  refine evW_wp 500 Γ0 default _ s1 _ _ s2 h2 ?_
  rw [Sem.wp_bind']
  have hb : Sem.wp (model PW w) Γ1 (denote table (.body bodyL env0)) (Sem.finPost (model PW w) Γ1 fun r s' => r = .ok .next ∧ P s' ∧ s'.gens = #[]) (fun e _ s' => (.error e : Result) = .ok .next ∧ P s' ∧ s'.gens = #[]) default s2.abs := by
    show Sem.wp _ _ (blockStart bodyL env0 >>= fun _ => (execs bodyL env0).onRaise (leaving env0) >>= fun f => (pure (.done f) : Sem Fin)) _ _ _ _
    rw [Sem.wp_bind']
    refine evW_wp 500 Γ1 default _ s2 _ _ s3 h3 ?_
    rw [Sem.wp_bind', Sem.wp_onRaise, st5_is]
    refine wp_execs_app _ _ _ _ ?_
    refine evW_wp 3000 Γ1 default _ s3 _ _ s4' h4 ?_
    dsimp only
    have e : execs (.Assign ts5 (.Dict ks5 vs5 q5) p5 :: l2) env0 = (do match ← exec (.Assign ts5 (.Dict ks5 vs5 q5) p5) env0 with | .next => execs l2 env0 | f => pure f) := rfl
    rw [e, Sem.wp_bind']
    have sz : s4'.abs.heap.objs.size = 57 := by
      show (absHeap s4'.tree s4'.n s4'.life).objs.size = 57
      rw [absHeap_size, n57]
    have tk : s4'.abs.toks = 358 := t358
    refine wp_dictG swaps5 stores5 Γ1_in (by rw [sz]; exact low57) L5_is (by intro e; have := L5_len; rw [e] at this; cases this) (rising_nodup L5_keys) (by rw [L5_len, sizeLine_eq]; omega) ?_
    intro p'
    rw [sz, tk]
    obtain ⟨s7, h7, hP⟩ := hC p'
    unfold runC at h7
    obtain ⟨s5, h5, h7⟩ := Option.bind_eq_some_iff.mp h7
    obtain ⟨⟨f6, p6, s6⟩, h6, h7⟩ := Option.bind_eq_some_iff.mp h7
    obtain ⟨s6', g6, h7⟩ := Option.bind_eq_some_iff.mp h7
    obtain ⟨b6, rfl⟩ := guardB_some g6
    obtain ⟨⟨f8, p8, s8⟩, h8, g8⟩ := Option.bind_eq_some_iff.mp h7
    obtain ⟨b8, rfl⟩ := guardB_some g8
    obtain rfl := isNext_is b6
    obtain rfl := isNext_is b8
    have k6 := evW_keeps _ _ _ _ _ _ _ _ h6
    have k8 := evW_keeps _ _ _ _ _ _ _ _ h8
    have g5 : s5.gens = #[] := by
      have := congrArg Shared.gens (addObjs_abs h5)
      exact this.trans g4
    have a5 := addObjs_abs h5
    unfold newObjs at a5
    rw [← a5]
    refine evW_wp 500 Γ1 p' _ s5 _ _ s6 h6 ?_
    dsimp only
    refine evW_wp 3000 Γ1 p6 _ s6 _ _ s8 h8 ?_
    rw [Sem.wp_pure']
    exact ⟨rfl, hP, by show s8.gens = #[]; rw [k8.2.1, k6.2.1, g5]⟩
  obtain ⟨r, s', hr, rfl, hP, hg'⟩ := (Sem.wp_iff_runs (model PW w) Γ1 _ _ default s2.abs).mp hb
  refine ⟨.ok .next, s', hr, ?_⟩
  exact ⟨_, rfl, hP, hg'⟩
end Mine
end

section
open PySem PySem.W PyProof.Rows PySem.Calls
set_option Elab.async false
set_option maxRecDepth 100000
namespace Mine

noncomputable abbrev TopFacts (r : OpenRow) (q : Program) (loose : List Str) (XP : (Str → Option Value) → Heap → Prop) (YP : World → Heap → Prop) (w : World) (s₀ s₁ : Shared) : Prop :=
  TopRan r.prog w s₀ s₁ ∧ s₁.asleep ∧ s₁.gens = #[] ∧ s₁.heap.isNs mainGlobals = true ∧ Ground q loose [] (fun mg h => XP mg h ∧ RecFacts r.records h) w s₁ (s₁.heap.nsMap mainGlobals) (s₁.heap.nsMap builtinsNs) s₁.heap ∧ YP w s₁.heap

theorem holds_from {r : OpenRow} {q : Program} {loose : List Str} {XP : (Str → Option Value) → Heap → Prop} {YP : World → Heap → Prop} {d : DefRec} {kwd : List (Str × Expr)}
    (beh : ∀ w, (∃ s, AfterRun (opening r.prog) w s) ∧ ∀ s, AfterRun (opening r.prog) w s → ∃ s₀, fenceModules? r.prog s = some s₀ ∧ s₀.gens = #[] ∧ ∃ s₁, TopFacts r q loose XP YP w s₀ s₁)
    (hYk : ∀ w h h', YP w h → (∀ b o, h.get? b = some o → h'.get? b = some o) → YP w h') (hXk : ∀ mg h h', XP mg h → (∀ b o, h.get? b = some o → h'.get? b = some o) → XP mg h')
    (hdef : defOf q r.name = some (d, kwd)) (hp : r.prog.theDef r.name = some (d.params, d.body, d.scope)) (hk : kwWritten? d.params.kwonlyargs d.params.kw_defaults = some kwd)
    (hwr : (!r.writes || r.records.isEmpty) = true) (k1 : r.wellSaid = true) (ok : (opensWell r.prog && (frees r.toRowW && r.within.isEmpty)) = true) (hb : r.prog.bare) (hw : r.toRowW.promised)
    (call : WalkO q loose XP YP r.toRowW d kwd fun f vs => PySem.call f vs) : r.Holds := by
  obtain ⟨o1, k5⟩ := Bool.and_eq_true_iff.mp ok
  obtain ⟨k5, k6⟩ := Bool.and_eq_true_iff.mp k5
  obtain ⟨hsame, hu, ha, hap, hm⟩ := frees_parts k5
  refine ⟨k1, hw, ⟨hb, o1, by show r.makers.map _ = []; rw [hm]; rfl⟩, hw.witness, fun w => ⟨(beh w).1, fun s' hs' => ?_⟩⟩
  obtain ⟨s₀, hf, hg0, s, hT, hz, hgens, hg, G00, y⟩ := (beh w).2 s' hs'
  have G0 : Ground q loose [] XP w s (s.heap.nsMap mainGlobals) (s.heap.nsMap builtinsNs) s.heap := ⟨G00.T, G00.B, G00.D, G00.TE, G00.TD, G00.W, G00.X.1, G00.cls, G00.has, G00.apart, G00.once, G00.K⟩
  have RF := G00.X.2
  have G : Ground q loose r.records XP w s _ _ s.heap := RF.ground G0
  refine ⟨s₀, hf, hg0, s, hT, fun n hn => ?_, RF.1, RF.2.1, ?_⟩
  · obtain rfl : n = r.name := by split at hn <;> simp_all
    exact pinned_of_view hg G0 hdef hp hk
  refine ClaimW.callFrom_of_specG (c := r.toRowW.claim) (tree := fun vs => do match ← nsGet mainNs r.name with
      | some f => do ret (← PySem.call f vs)
      | none => unsupported "claim.caller:no-such-global") hz hgens fun args hpre hlay ord hord => ?_
  obtain ⟨⟨vs, s₁⟩, hlaid⟩ := Option.isSome_iff_exists.mp (layAllW_isSome (P := w.params) (ord := ord) G.has args r.args s (pre_splitW hpre).1)
  have keeps := layAllW_keeps _ _ _ hlaid
  have hal := layAllW_rest _ _ _ hlaid
  obtain ⟨as, hrd, hin, hold⟩ := reads_layAllW hord _ _ _ hlaid hlay s₁.heap (fun _ _ e => e)
  have L : Laid r.records w s s₁ args vs as := ⟨⟨ord, hord, hlaid⟩, hrd, hin, hold, keeps, hal.1.trans hgens, hal.2.2.1⟩
  have G₁ := G.keeps hXk keeps
  obtain ⟨a, o, pm, cd, doc, dV, kV, h1, h2, h3, h4, h5⟩ := G₁.fn hdef
  have h := call w s s₁ _ _ G₁ (hYk _ _ _ y keeps) a o pm cd doc dV kV h2 h3 h4 h5 (defOf_name hdef ▸ h1) L.gens args vs as hpre hlay L.reads L.well (L.low G.low)
  have hi := ident_freeW hu ha hap
  have hwi : r.claim.within = [] := List.isEmpty_iff.mp k6
  refine ⟨vs, s₁, hlaid, ?_⟩
  refine wpAny_bind (wpAny_nsGet G₁.T.g (by
    rw [h1]
    exact wpAny_bind (wpAny_mono h
      (fun v s' g => wpAny_pure ⟨_, rfl, have z := g.laid (c := r.claim) hsame hwi hi L; ⟨z.1, z.2.1, z.2.2, fun q => ⟨namesKept_of hT hg _ keeps fun b o e => g.2.1.old b o e, noTable hwr q⟩⟩⟩)
      (fun e s' g => have z := g.laid (c := r.claim) hsame hwi hi L; ⟨z.1, z.2.1, z.2.2, fun q => ⟨namesKept_of hT hg _ keeps fun b o e => g.2.1.old b o e, noTable hwr q⟩⟩))))
end Mine
end

section
open PySem PySem.W PyProof.Rows
set_option Elab.async false
set_option maxRecDepth 100000
set_option maxHeartbeats 0
namespace Mine
noncomputable def qv : Program := view PW [0, 1, 4, 6, 8, 9, 11, 12, 13, 15, 16, 17, 19, 21, 22, 23, 24, 25, 26, 27, 28, 29]
noncomputable def looseL : List Str := [Str.ofString "b1_set", Str.ofString "b3_exceptions", Str.ofString "tspecials", Str.ofString "_name_disallowed_re", Str.ofString "_value_disallowed_re", Str.ofString "_formatparam"]
noncomputable def XtL (s : Shared) : Bool := xlAt qv [] s && recOk [] s
noncomputable def mods : List Str := importedModules PW.main.body
noncomputable def keepL : List Addr := [0, 1, 4, 5, 6, 7, 8, 9, 10, 11, 12, 13, 14, 15, 16, 17, 18, 19, 20, 21, 22, 23, 24, 25, 26, 27]
end Mine
end

section
open PySem PySem.W PyProof.Rows
set_option Elab.async false
set_option maxRecDepth 100000
set_option maxHeartbeats 4000000
namespace Mine
structure FnAst where
  params : Arguments
  body : List Stmt
  scope : Scope
noncomputable def fnOf : Option Stmt → Option FnAst
  | some (PySem.Stmt.FunctionDef _ a b _ _ _ sc _ _ _) => some ⟨a, b, sc⟩
  | _ => none
noncomputable def fnAt (i : Nat) : Option FnAst := fnOf PW.main.body[i]?
noncomputable def clsBody : List Stmt := match PW.main.body[19]? with
  | some (PySem.Stmt.ClassDef _ _ _ b _ _ _ _ _ _ _) => b
  | _ => []
noncomputable def mAt (i : Nat) : Option FnAst := fnOf clsBody[i]?
noncomputable abbrev T1 : FnAst := (⟨⟨_, _, _⟩, rfl⟩ : {x : FnAst // fnAt 1 = some x}).val
noncomputable abbrev T4 : FnAst := (⟨⟨_, _, _⟩, rfl⟩ : {x : FnAst // fnAt 4 = some x}).val
noncomputable abbrev T6 : FnAst := (⟨⟨_, _, _⟩, rfl⟩ : {x : FnAst // fnAt 6 = some x}).val
noncomputable abbrev T8 : FnAst := (⟨⟨_, _, _⟩, rfl⟩ : {x : FnAst // fnAt 8 = some x}).val
noncomputable abbrev T9 : FnAst := (⟨⟨_, _, _⟩, rfl⟩ : {x : FnAst // fnAt 9 = some x}).val
noncomputable abbrev T13 : FnAst := (⟨⟨_, _, _⟩, rfl⟩ : {x : FnAst // fnAt 13 = some x}).val
noncomputable abbrev T18 : FnAst := (⟨⟨_, _, _⟩, rfl⟩ : {x : FnAst // fnAt 18 = some x}).val
noncomputable abbrev T21 : FnAst := (⟨⟨_, _, _⟩, rfl⟩ : {x : FnAst // fnAt 21 = some x}).val
noncomputable abbrev T22 : FnAst := (⟨⟨_, _, _⟩, rfl⟩ : {x : FnAst // fnAt 22 = some x}).val
noncomputable abbrev T23 : FnAst := (⟨⟨_, _, _⟩, rfl⟩ : {x : FnAst // fnAt 23 = some x}).val
noncomputable abbrev T24 : FnAst := (⟨⟨_, _, _⟩, rfl⟩ : {x : FnAst // fnAt 24 = some x}).val
noncomputable abbrev T25 : FnAst := (⟨⟨_, _, _⟩, rfl⟩ : {x : FnAst // fnAt 25 = some x}).val
noncomputable abbrev T26 : FnAst := (⟨⟨_, _, _⟩, rfl⟩ : {x : FnAst // fnAt 26 = some x}).val
noncomputable abbrev T27 : FnAst := (⟨⟨_, _, _⟩, rfl⟩ : {x : FnAst // fnAt 27 = some x}).val
noncomputable abbrev T28 : FnAst := (⟨⟨_, _, _⟩, rfl⟩ : {x : FnAst // fnAt 28 = some x}).val
noncomputable abbrev T29 : FnAst := (⟨⟨_, _, _⟩, rfl⟩ : {x : FnAst // fnAt 29 = some x}).val
noncomputable abbrev M0 : FnAst := (⟨⟨_, _, _⟩, rfl⟩ : {x : FnAst // mAt 0 = some x}).val
noncomputable abbrev M1 : FnAst := (⟨⟨_, _, _⟩, rfl⟩ : {x : FnAst // mAt 1 = some x}).val
noncomputable abbrev M2 : FnAst := (⟨⟨_, _, _⟩, rfl⟩ : {x : FnAst // mAt 2 = some x}).val
noncomputable abbrev M3 : FnAst := (⟨⟨_, _, _⟩, rfl⟩ : {x : FnAst // mAt 3 = some x}).val
noncomputable abbrev M4 : FnAst := (⟨⟨_, _, _⟩, rfl⟩ : {x : FnAst // mAt 4 = some x}).val
noncomputable abbrev M5 : FnAst := (⟨⟨_, _, _⟩, rfl⟩ : {x : FnAst // mAt 5 = some x}).val
noncomputable abbrev M6 : FnAst := (⟨⟨_, _, _⟩, rfl⟩ : {x : FnAst // mAt 6 = some x}).val
noncomputable abbrev M7 : FnAst := (⟨⟨_, _, _⟩, rfl⟩ : {x : FnAst // mAt 7 = some x}).val
noncomputable abbrev M8 : FnAst := (⟨⟨_, _, _⟩, rfl⟩ : {x : FnAst // mAt 8 = some x}).val
noncomputable abbrev M9 : FnAst := (⟨⟨_, _, _⟩, rfl⟩ : {x : FnAst // mAt 9 = some x}).val
noncomputable abbrev M10 : FnAst := (⟨⟨_, _, _⟩, rfl⟩ : {x : FnAst // mAt 10 = some x}).val
noncomputable abbrev M11 : FnAst := (⟨⟨_, _, _⟩, rfl⟩ : {x : FnAst // mAt 11 = some x}).val
noncomputable abbrev M12 : FnAst := (⟨⟨_, _, _⟩, rfl⟩ : {x : FnAst // mAt 12 = some x}).val
noncomputable abbrev M13 : FnAst := (⟨⟨_, _, _⟩, rfl⟩ : {x : FnAst // mAt 13 = some x}).val
noncomputable abbrev M14 : FnAst := (⟨⟨_, _, _⟩, rfl⟩ : {x : FnAst // mAt 14 = some x}).val
noncomputable abbrev M15 : FnAst := (⟨⟨_, _, _⟩, rfl⟩ : {x : FnAst // mAt 15 = some x}).val
noncomputable abbrev M16 : FnAst := (⟨⟨_, _, _⟩, rfl⟩ : {x : FnAst // mAt 16 = some x}).val
@[irreducible] noncomputable def B3 : Obj := newObjs.headD default
noncomputable def KF : Params → Frag := fun P =>
  (nat_lit 2, ⟨.none, none, .dict #[⟨PyData.keyHash P (Str.ofString "\x69mport.loaded._sre"), .str (Str.ofString "\x69mport.loaded._sre") 183, .bool true⟩, ⟨PyData.keyHash P (Str.ofString "class._frozen_importlib.BuiltinImporter"), .str (Str.ofString "class._frozen_importlib.BuiltinImporter") 185, .ref 14⟩, ⟨PyData.keyHash P (Str.ofString "watched.\x69mport"), .str (Str.ofString "watched.\x69mport") 206, .ref 18⟩, ⟨PyData.keyHash P (Str.ofString "class._frozen_importlib.ModuleSpec"), .str (Str.ofString "class._frozen_importlib.ModuleSpec") 216, .ref 22⟩, ⟨PyData.keyHash P (Str.ofString "sys.modules.booked-epoch"), .str (Str.ofString "sys.modules.booked-epoch") 245, .int 3 0⟩, ⟨PyData.keyHash P (Str.ofString "\x69mport.later-laid._sre"), .str (Str.ofString "\x69mport.later-laid._sre") 270, .bool true⟩, ⟨PyData.keyHash P (Str.ofString "watched.library"), .str (Str.ofString "watched.library") 272, .ref 27⟩, ⟨PyData.keyHash P (Str.ofString "watched.library-objects"), .str (Str.ofString "watched.library-objects") 0, .str (Str.ofString "\x0c") 0⟩, ⟨PyData.keyHash P (Str.ofString "watched.library-deep._sre"), .str (Str.ofString "watched.library-deep._sre") 273, .str (Str.ofString "\x04\x00\x00\x0b\x04\x00\x00\x0b\x04\x00\x00\x03\x04\x00\x00\x0b\x08\x04dict\x02") 0⟩] 9, #[]⟩) ::
  (nat_lit 3, ⟨.type "dict", none, .dict #[⟨PyData.keyHash P (Str.ofString "__name__"), .str (Str.ofString "__name__") 165, .str (Str.ofString "law_to0082_01") 2620⟩, ⟨PyData.keyHash P (Str.ofString "__doc__"), .str (Str.ofString "__doc__") 166, .none⟩, ⟨PyData.keyHash P (Str.ofString "__package__"), .str (Str.ofString "__package__") 167, .none⟩, ⟨PyData.keyHash P (Str.ofString "__loader__"), .str (Str.ofString "__loader__") 168, .builtin "__main__.__loader__#opaque"⟩, ⟨PyData.keyHash P (Str.ofString "__spec__"), .str (Str.ofString "__spec__") 169, .none⟩, ⟨PyData.keyHash P (Str.ofString "__annotations__"), .str (Str.ofString "__annotations__") 170, .ref 6⟩, ⟨PyData.keyHash P (Str.ofString "__builtins__"), .str (Str.ofString "__builtins__") 171, .ref 4⟩, ⟨PyData.keyHash P (Str.ofString "__file__"), .str (Str.ofString "__file__") 173, .str (Str.ofString "/claim/cut.py") 172⟩, ⟨PyData.keyHash P (Str.ofString "__cached__"), .str (Str.ofString "__cached__") 174, .none⟩, ⟨PyData.keyHash P (Str.ofString "_sre"), .str (Str.ofString "_sre") 275, .ref 12⟩, ⟨PyData.keyHash P (Str.ofString "_wall"), .str (Str.ofString "_wall") 288, .ref 38⟩, ⟨PyData.keyHash P (Str.ofString "b1_set"), .str (Str.ofString "b1_set") 350, .ref 46⟩, ⟨PyData.keyHash P (Str.ofString "in_table_b1"), .str (Str.ofString "in_table_b1") 357, .ref 56⟩, ⟨PyData.keyHash P (Str.ofString "b3_exceptions"), .str (Str.ofString "b3_exceptions") 2308, .ref 57⟩, ⟨PyData.keyHash P (Str.ofString "map_table_b3"), .str (Str.ofString "map_table_b3") 2316, .ref 102⟩, ⟨PyData.keyHash P (Str.ofString "_int2digits"), .str (Str.ofString "_int2digits") 2329, .ref 109⟩, ⟨PyData.keyHash P (Str.ofString "_digits2int"), .str (Str.ofString "_digits2int") 2340, .ref 116⟩, ⟨PyData.keyHash P (Str.ofString "_MOVE_COST"), .str (Str.ofString "_MOVE_COST") 2344, .int 2 2343⟩, ⟨PyData.keyHash P (Str.ofString "_CASE_COST"), .str (Str.ofString "_CASE_COST") 2346, .int 1 2345⟩, ⟨PyData.keyHash P (Str.ofString "_substitution_cost"), .str (Str.ofString "_substitution_cost") 2354, .ref 123⟩, ⟨PyData.keyHash P (Str.ofString "tspecials"), .str (Str.ofString "tspecials") 2390, .ref 128⟩, ⟨PyData.keyHash P (Str.ofString "_name_disallowed_re"), .str (Str.ofString "_name_disallowed_re") 2416, .ref 133⟩, ⟨PyData.keyHash P (Str.ofString "_value_disallowed_re"), .str (Str.ofString "_value_disallowed_re") 2450, .ref 138⟩, ⟨PyData.keyHash P (Str.ofString "_formatparam"), .str (Str.ofString "_formatparam") 2460, .ref 146⟩, ⟨PyData.keyHash P (Str.ofString "Headers"), .str (Str.ofString "Headers") 2619, .ref 269⟩, ⟨PyData.keyHash P (Str.ofString "_law_given"), .str (Str.ofString "_law_given") 2627, .ref 278⟩, ⟨PyData.keyHash P (Str.ofString "_law_piece"), .str (Str.ofString "_law_piece") 2636, .ref 285⟩, ⟨PyData.keyHash P (Str.ofString "_law_rules"), .str (Str.ofString "_law_rules") 2646, .ref 292⟩, ⟨PyData.keyHash P (Str.ofString "_law_page"), .str (Str.ofString "_law_page") 2657, .ref 299⟩, ⟨PyData.keyHash P (Str.ofString "_law_walk"), .str (Str.ofString "_law_walk") 2670, .ref 306⟩, ⟨PyData.keyHash P (Str.ofString "_law_out"), .str (Str.ofString "_law_out") 2683, .ref 313⟩, ⟨PyData.keyHash P (Str.ofString "_law_numbers"), .str (Str.ofString "_law_numbers") 2689, .ref 318⟩, ⟨PyData.keyHash P (Str.ofString "_law_cut"), .str (Str.ofString "_law_cut") 2701, .ref 325⟩, ⟨PyData.keyHash P (Str.ofString "law"), .str (Str.ofString "law") 2707, .ref 330⟩] 34, #[]⟩) ::
  (nat_lit 32, ⟨.type "tuple", none, .seq #[] 0, #[]⟩) ::
  (nat_lit 34, ⟨.type "tuple", none, .seq #[.str (Str.ofString "k") 285] 0, #[]⟩) ::
  (nat_lit 35, ⟨.type "tuple", none, .seq #[] 0, #[]⟩) ::
  (nat_lit 37, ⟨.type "code", none, .fields #[.str (Str.ofString "_wall") 282, .str (Str.ofString "_wall") 283, .str (Str.ofString "/claim/cut.py") 284, .int 2 0, .int 1 0, .int 0 0, .int 0 0, .int 3 0, .ref 32, .bool true, .int 276 0, .ref 33, .none, .ref 34, .ref 35, .ref 36, .int 286 0, .int 2 0, .str (Str.ofString "/claim/cut.py") 287], #[]⟩) ::
  (nat_lit 38, ⟨.type "function", none, .func { name := (Str.ofString "_wall"), qualname := (Str.ofString "_wall"), params := T1.params, body := .stmts T1.body, scope := T1.scope, globals := 3, closure := [], defaults := .none, kwdefaults := .none, doc := .none, pyModule := .str (Str.ofString "__main__") 164, annotations := none, code := .ref 37, closureTuple := .none, builtins := 0 }, #[]⟩) ::
  (nat_lit 46, ⟨.type "set", none, .set #[(65024, .int 65024 307), (65025, .int 65025 308), (65026, .int 65026 309), (65027, .int 65027 310), (65028, .int 65028 311), (65029, .int 65029 312), (6150, .int 6150 293), (65030, .int 65030 313), (65031, .int 65031 314), (65032, .int 65032 315), (65033, .int 65033 316), (6155, .int 6155 294), (6156, .int 6156 295), (6157, .int 6157 296), (8203, .int 8203 297), (8204, .int 8204 298), (8205, .int 8205 299), (65034, .int 65034 317), (65035, .int 65035 318), (65036, .int 65036 319), (65037, .int 65037 320), (65038, .int 65038 321), (65039, .int 65039 322), (173, .int 173 291), (847, .int 847 292), (8288, .int 8288 300), (65279, .int 65279 301)] 29 { mask := 127, place := #[0, 1, 2, 3, 4, 5, 6, 7, 8, 9, 10, 11, 12, 13, 14, 15, 16, 17, 18, 19, 20, 21, 22, 45, 79, 96, 127], dummies := #[], finger := 0, led := !P.followText "set-order", moves := 2, plain := true }, #[]⟩) ::
  (nat_lit 50, ⟨.type "tuple", none, .seq #[] 0, #[]⟩) ::
  (nat_lit 52, ⟨.type "tuple", none, .seq #[.str (Str.ofString "code") 354] 0, #[]⟩) ::
  (nat_lit 53, ⟨.type "tuple", none, .seq #[] 0, #[]⟩) ::
  (nat_lit 55, ⟨.type "code", none, .fields #[.str (Str.ofString "in_table_b1") 351, .str (Str.ofString "in_table_b1") 352, .str (Str.ofString "/claim/cut.py") 353, .int 7 0, .int 1 0, .int 0 0, .int 0 0, .int 3 0, .ref 50, .bool true, .int 276 0, .ref 51, .none, .ref 52, .ref 53, .ref 54, .int 355 0, .int 7 0, .str (Str.ofString "/claim/cut.py") 356], #[]⟩) ::
  (nat_lit 56, ⟨.type "function", none, .func { name := (Str.ofString "in_table_b1"), qualname := (Str.ofString "in_table_b1"), params := T4.params, body := .stmts T4.body, scope := T4.scope, globals := 3, closure := [], defaults := .none, kwdefaults := .none, doc := .none, pyModule := .str (Str.ofString "cpy313.stringprep") 289, annotations := none, code := .ref 55, closureTuple := .none, builtins := 0 }, #[]⟩) ::
  (nat_lit 57, B3) ::
  (nat_lit 96, ⟨.type "tuple", none, .seq #[] 0, #[]⟩) ::
  (nat_lit 98, ⟨.type "tuple", none, .seq #[.str (Str.ofString "code") 2312, .str (Str.ofString "r") 2313] 0, #[]⟩) ::
  (nat_lit 99, ⟨.type "tuple", none, .seq #[] 0, #[]⟩) ::
  (nat_lit 101, ⟨.type "code", none, .fields #[.str (Str.ofString "map_table_b3") 2309, .str (Str.ofString "map_table_b3") 2310, .str (Str.ofString "/claim/cut.py") 2311, .int 10 0, .int 1 0, .int 0 0, .int 0 0, .int 3 0, .ref 96, .bool true, .int 276 0, .ref 97, .none, .ref 98, .ref 99, .ref 100, .int 2314 0, .int 10 0, .str (Str.ofString "/claim/cut.py") 2315], #[]⟩) ::
  (nat_lit 102, ⟨.type "function", none, .func { name := (Str.ofString "map_table_b3"), qualname := (Str.ofString "map_table_b3"), params := T6.params, body := .stmts T6.body, scope := T6.scope, globals := 3, closure := [], defaults := .none, kwdefaults := .none, doc := .none, pyModule := .str (Str.ofString "cpy313.stringprep") 289, annotations := none, code := .ref 101, closureTuple := .none, builtins := 0 }, #[]⟩) ::
  (nat_lit 103, ⟨.type "tuple", none, .seq #[] 0, #[]⟩) ::
  (nat_lit 105, ⟨.type "tuple", none, .seq #[.str (Str.ofString "a") 2322, .str (Str.ofString "n") 2323] 0, #[]⟩) ::
  (nat_lit 106, ⟨.type "tuple", none, .seq #[.str (Str.ofString "n") 2324, .str (Str.ofString "a_digits") 2325, .str (Str.ofString "inner") 2326] 0, #[]⟩) ::
  (nat_lit 108, ⟨.type "code", none, .fields #[.str (Str.ofString "_int2digits") 2319, .str (Str.ofString "_int2digits") 2320, .str (Str.ofString "/claim/cut.py") 2321, .int 16 0, .int 2 0, .int 0 0, .int 0 0, .int 3 0, .ref 103, .bool true, .int 276 0, .ref 104, .none, .ref 105, .ref 106, .ref 107, .int 2327 0, .int 16 0, .str (Str.ofString "/claim/cut.py") 2328], #[]⟩) ::
  (nat_lit 109, ⟨.type "function", none, .func { name := (Str.ofString "_int2digits"), qualname := (Str.ofString "_int2digits"), params := T8.params, body := .stmts T8.body, scope := T8.scope, globals := 3, closure := [], defaults := .none, kwdefaults := .none, doc := .none, pyModule := .str (Str.ofString "cpy313._pylong") 2317, annotations := none, code := .ref 108, closureTuple := .none, builtins := 0 }, #[]⟩) ::
  (nat_lit 110, ⟨.type "tuple", none, .seq #[] 0, #[]⟩) ::
  (nat_lit 112, ⟨.type "tuple", none, .seq #[.str (Str.ofString "digits") 2333, .str (Str.ofString "n") 2334] 0, #[]⟩) ::
  (nat_lit 113, ⟨.type "tuple", none, .seq #[.str (Str.ofString "digits") 2335, .str (Str.ofString "n") 2336, .str (Str.ofString "inner") 2337] 0, #[]⟩) ::
  (nat_lit 115, ⟨.type "code", none, .fields #[.str (Str.ofString "_digits2int") 2330, .str (Str.ofString "_digits2int") 2331, .str (Str.ofString "/claim/cut.py") 2332, .int 32 0, .int 2 0, .int 0 0, .int 0 0, .int 3 0, .ref 110, .bool true, .int 276 0, .ref 111, .none, .ref 112, .ref 113, .ref 114, .int 2338 0, .int 32 0, .str (Str.ofString "/claim/cut.py") 2339], #[]⟩) ::
  (nat_lit 116, ⟨.type "function", none, .func { name := (Str.ofString "_digits2int"), qualname := (Str.ofString "_digits2int"), params := T9.params, body := .stmts T9.body, scope := T9.scope, globals := 3, closure := [], defaults := .none, kwdefaults := .none, doc := .none, pyModule := .str (Str.ofString "cpy313._pylong") 2317, annotations := none, code := .ref 115, closureTuple := .none, builtins := 0 }, #[]⟩) ::
  (nat_lit 117, ⟨.type "tuple", none, .seq #[] 0, #[]⟩) ::
  (nat_lit 119, ⟨.type "tuple", none, .seq #[.str (Str.ofString "ch_a") 2350, .str (Str.ofString "ch_b") 2351] 0, #[]⟩) ::
  (nat_lit 120, ⟨.type "tuple", none, .seq #[] 0, #[]⟩) ::
  (nat_lit 122, ⟨.type "code", none, .fields #[.str (Str.ofString "_substitution_cost") 2347, .str (Str.ofString "_substitution_cost") 2348, .str (Str.ofString "/claim/cut.py") 2349, .int 44 0, .int 2 0, .int 0 0, .int 0 0, .int 3 0, .ref 117, .bool true, .int 276 0, .ref 118, .none, .ref 119, .ref 120, .ref 121, .int 2352 0, .int 44 0, .str (Str.ofString "/claim/cut.py") 2353], #[]⟩) ::
  (nat_lit 123, ⟨.type "function", none, .func { name := (Str.ofString "_substitution_cost"), qualname := (Str.ofString "_substitution_cost"), params := T13.params, body := .stmts T13.body, scope := T13.scope, globals := 3, closure := [], defaults := .none, kwdefaults := .none, doc := .none, pyModule := .str (Str.ofString "cpy313.traceback") 2341, annotations := none, code := .ref 122, closureTuple := .none, builtins := 0 }, #[]⟩) ::
  (nat_lit 127, ⟨.type "tuple", none, .seq #[.int 14 0, .int 14 0, .int 4 0, .int 1 0, .int 1 0, .int 9 0, .int 0 0, .int 4227896069 0, .int 939524097 0, .int 0 0, .int 0 0, .int 0 0, .int 0 0, .int 0 0, .int 0 0, .int 13 0, .int 11 0, .int 9 0, .int 0 0, .int 4227896069 0, .int 939524097 0, .int 0 0, .int 0 0, .int 0 0, .int 0 0, .int 0 0, .int 0 0, .int 1 0] 0, #[]⟩) ::
  (nat_lit 128, ⟨.type "re.Pattern", none, .fields #[.str (Str.ofString "[ \\(\\)<>@,;:\\\\\"/\\[\\]\\?=]") 2358, .int 32 2389, .int 0 0, .none, .none, .ref 127, .int 0 0], #[]⟩) ::
  (nat_lit 132, ⟨.type "tuple", none, .seq #[.int 14 0, .int 10 0, .int 4 0, .int 1 0, .int 1 0, .int 22 0, .int 0 0, .int 31 0, .int 16 0, .int 127 0, .int 0 0, .int 13 0, .int 7 0, .int 22 0, .int 0 0, .int 31 0, .int 16 0, .int 127 0, .int 0 0, .int 1 0] 0, #[]⟩) ::
  (nat_lit 133, ⟨.type "re.Pattern", none, .fields #[.str (Str.ofString "[\\x00-\\x1F\\x7F]") 2392, .int 32 2415, .int 0 0, .none, .none, .ref 132, .int 0 0], #[]⟩) ::
  (nat_lit 137, ⟨.type "tuple", none, .seq #[.int 14 0, .int 14 0, .int 4 0, .int 1 0, .int 1 0, .int 9 0, .int 4294966783 0, .int 0 0, .int 0 0, .int 2147483648 0, .int 0 0, .int 0 0, .int 0 0, .int 0 0, .int 0 0, .int 13 0, .int 11 0, .int 9 0, .int 4294966783 0, .int 0 0, .int 0 0, .int 2147483648 0, .int 0 0, .int 0 0, .int 0 0, .int 0 0, .int 0 0, .int 1 0] 0, #[]⟩) ::
  (nat_lit 138, ⟨.type "re.Pattern", none, .fields #[.str (Str.ofString "[\\x00-\\x08\\x0A-\\x1F\\x7F]") 2418, .int 32 2449, .int 0 0, .none, .none, .ref 137, .int 0 0], #[]⟩) ::
  (nat_lit 139, ⟨.type "tuple", none, .seq #[.none, .int 1 2451] 0, #[]⟩) ::
  (nat_lit 140, ⟨.type "tuple", none, .seq #[] 0, #[]⟩) ::
  (nat_lit 142, ⟨.type "tuple", none, .seq #[.str (Str.ofString "param") 2455, .str (Str.ofString "value") 2456, .str (Str.ofString "quote") 2457] 0, #[]⟩) ::
  (nat_lit 143, ⟨.type "tuple", none, .seq #[] 0, #[]⟩) ::
  (nat_lit 145, ⟨.type "code", none, .fields #[.str (Str.ofString "_formatparam") 2452, .str (Str.ofString "_formatparam") 2453, .str (Str.ofString "/claim/cut.py") 2454, .int 54 0, .int 3 0, .int 0 0, .int 0 0, .int 3 0, .ref 140, .bool true, .int 276 0, .ref 141, .none, .ref 142, .ref 143, .ref 144, .int 2458 0, .int 54 0, .str (Str.ofString "/claim/cut.py") 2459], #[]⟩) ::
  (nat_lit 146, ⟨.type "function", none, .func { name := (Str.ofString "_formatparam"), qualname := (Str.ofString "_formatparam"), params := T18.params, body := .stmts T18.body, scope := T18.scope, globals := 3, closure := [], defaults := .ref 139, kwdefaults := .none, doc := .none, pyModule := .str (Str.ofString "cpy313.wsgiref.headers") 2355, annotations := none, code := .ref 145, closureTuple := .none, builtins := 0 }, #[]⟩) ::
  (nat_lit 154, ⟨.type "tuple", none, .seq #[.none] 0, #[]⟩) ::
  (nat_lit 155, ⟨.type "tuple", none, .seq #[] 0, #[]⟩) ::
  (nat_lit 157, ⟨.type "tuple", none, .seq #[.str (Str.ofString "self") 2476, .str (Str.ofString "headers") 2477, .str (Str.ofString "k") 2478, .str (Str.ofString "v") 2479] 0, #[]⟩) ::
  (nat_lit 158, ⟨.type "tuple", none, .seq #[] 0, #[]⟩) ::
  (nat_lit 160, ⟨.type "code", none, .fields #[.str (Str.ofString "__init__") 2473, .str (Str.ofString "Headers.__init__") 2474, .str (Str.ofString "/claim/cut.py") 2475, .int 65 0, .int 2 0, .int 0 0, .int 0 0, .int 3 0, .ref 155, .bool true, .int 276 0, .ref 156, .none, .ref 157, .ref 158, .ref 159, .int 2480 0, .int 65 0, .str (Str.ofString "/claim/cut.py") 2481], #[]⟩) ::
  (nat_lit 161, ⟨.type "function", none, .func { name := (Str.ofString "__init__"), qualname := (Str.ofString "Headers.__init__"), params := M0.params, body := .stmts M0.body, scope := M0.scope, globals := 3, closure := [], defaults := .ref 154, kwdefaults := .none, doc := .none, pyModule := .str (Str.ofString "cpy313.wsgiref.headers") 2355, annotations := none, code := .ref 160, closureTuple := .none, builtins := 0 }, #[]⟩) ::
  (nat_lit 162, ⟨.type "tuple", none, .seq #[] 0, #[]⟩) ::
  (nat_lit 164, ⟨.type "tuple", none, .seq #[.str (Str.ofString "self") 2486, .str (Str.ofString "value") 2487, .str (Str.ofString "name") 2488, .str (Str.ofString "regex") 2489] 0, #[]⟩) ::
  (nat_lit 165, ⟨.type "tuple", none, .seq #[] 0, #[]⟩) ::
  (nat_lit 167, ⟨.type "code", none, .fields #[.str (Str.ofString "_convert_string_type") 2483, .str (Str.ofString "Headers._convert_string_type") 2484, .str (Str.ofString "/claim/cut.py") 2485, .int 75 0, .int 2 0, .int 0 0, .int 1 0, .int 3 0, .ref 162, .bool true, .int 276 0, .ref 163, .none, .ref 164, .ref 165, .ref 166, .int 2490 0, .int 75 0, .str (Str.ofString "/claim/cut.py") 2491], #[]⟩) ::
  (nat_lit 168, ⟨.type "function", none, .func { name := (Str.ofString "_convert_string_type"), qualname := (Str.ofString "Headers._convert_string_type"), params := M1.params, body := .stmts M1.body, scope := M1.scope, globals := 3, closure := [], defaults := .none, kwdefaults := .none, doc := .none, pyModule := .str (Str.ofString "cpy313.wsgiref.headers") 2355, annotations := none, code := .ref 167, closureTuple := .none, builtins := 0 }, #[]⟩) ::
  (nat_lit 169, ⟨.type "tuple", none, .seq #[] 0, #[]⟩) ::
  (nat_lit 171, ⟨.type "tuple", none, .seq #[.str (Str.ofString "self") 2496] 0, #[]⟩) ::
  (nat_lit 172, ⟨.type "tuple", none, .seq #[] 0, #[]⟩) ::
  (nat_lit 174, ⟨.type "code", none, .fields #[.str (Str.ofString "__len__") 2493, .str (Str.ofString "Headers.__len__") 2494, .str (Str.ofString "/claim/cut.py") 2495, .int 83 0, .int 1 0, .int 0 0, .int 0 0, .int 3 0, .ref 169, .bool true, .int 276 0, .ref 170, .none, .ref 171, .ref 172, .ref 173, .int 2497 0, .int 83 0, .str (Str.ofString "/claim/cut.py") 2498], #[]⟩) ::
  (nat_lit 175, ⟨.type "function", none, .func { name := (Str.ofString "__len__"), qualname := (Str.ofString "Headers.__len__"), params := M2.params, body := .stmts M2.body, scope := M2.scope, globals := 3, closure := [], defaults := .none, kwdefaults := .none, doc := .none, pyModule := .str (Str.ofString "cpy313.wsgiref.headers") 2355, annotations := none, code := .ref 174, closureTuple := .none, builtins := 0 }, #[]⟩) ::
  (nat_lit 176, ⟨.type "tuple", none, .seq #[] 0, #[]⟩) ::
  (nat_lit 178, ⟨.type "tuple", none, .seq #[.str (Str.ofString "self") 2503, .str (Str.ofString "name") 2504, .str (Str.ofString "val") 2505] 0, #[]⟩) ::
  (nat_lit 179, ⟨.type "tuple", none, .seq #[] 0, #[]⟩) ::
  (nat_lit 181, ⟨.type "code", none, .fields #[.str (Str.ofString "__setitem__") 2500, .str (Str.ofString "Headers.__setitem__") 2501, .str (Str.ofString "/claim/cut.py") 2502, .int 86 0, .int 3 0, .int 0 0, .int 0 0, .int 3 0, .ref 176, .bool true, .int 276 0, .ref 177, .none, .ref 178, .ref 179, .ref 180, .int 2506 0, .int 86 0, .str (Str.ofString "/claim/cut.py") 2507], #[]⟩) ::
  (nat_lit 182, ⟨.type "function", none, .func { name := (Str.ofString "__setitem__"), qualname := (Str.ofString "Headers.__setitem__"), params := M3.params, body := .stmts M3.body, scope := M3.scope, globals := 3, closure := [], defaults := .none, kwdefaults := .none, doc := .none, pyModule := .str (Str.ofString "cpy313.wsgiref.headers") 2355, annotations := none, code := .ref 181, closureTuple := .none, builtins := 0 }, #[]⟩) ::
  (nat_lit 183, ⟨.type "tuple", none, .seq #[] 0, #[]⟩) ::
  (nat_lit 186, ⟨.type "code", none, .fields #[.str (Str.ofString "__delitem__") 2509, .str (Str.ofString "Headers.__delitem__") 2510, .str (Str.ofString "/claim/cut.py") 2511, .int 90 0, .int 2 0, .int 0 0, .int 0 0, .int 3 0, .ref 183, .bool true, .int 276 0, .ref 184, .none, .none, .none, .ref 185, .int 2512 0, .int 90 0, .str (Str.ofString "/claim/cut.py") 2513], #[]⟩) ::
  (nat_lit 187, ⟨.type "function", none, .func { name := (Str.ofString "__delitem__"), qualname := (Str.ofString "Headers.__delitem__"), params := M4.params, body := .stmts M4.body, scope := M4.scope, globals := 3, closure := [], defaults := .none, kwdefaults := .none, doc := .none, pyModule := .str (Str.ofString "cpy313.wsgiref.headers") 2355, annotations := none, code := .ref 186, closureTuple := .none, builtins := 0 }, #[]⟩) ::
  (nat_lit 188, ⟨.type "tuple", none, .seq #[] 0, #[]⟩) ::
  (nat_lit 190, ⟨.type "tuple", none, .seq #[.str (Str.ofString "self") 2518, .str (Str.ofString "name") 2519] 0, #[]⟩) ::
  (nat_lit 191, ⟨.type "tuple", none, .seq #[] 0, #[]⟩) ::
  (nat_lit 193, ⟨.type "code", none, .fields #[.str (Str.ofString "__getitem__") 2515, .str (Str.ofString "Headers.__getitem__") 2516, .str (Str.ofString "/claim/cut.py") 2517, .int 94 0, .int 2 0, .int 0 0, .int 0 0, .int 3 0, .ref 188, .bool true, .int 276 0, .ref 189, .none, .ref 190, .ref 191, .ref 192, .int 2520 0, .int 94 0, .str (Str.ofString "/claim/cut.py") 2521], #[]⟩) ::
  (nat_lit 194, ⟨.type "function", none, .func { name := (Str.ofString "__getitem__"), qualname := (Str.ofString "Headers.__getitem__"), params := M5.params, body := .stmts M5.body, scope := M5.scope, globals := 3, closure := [], defaults := .none, kwdefaults := .none, doc := .none, pyModule := .str (Str.ofString "cpy313.wsgiref.headers") 2355, annotations := none, code := .ref 193, closureTuple := .none, builtins := 0 }, #[]⟩) ::
  (nat_lit 195, ⟨.type "tuple", none, .seq #[] 0, #[]⟩) ::
  (nat_lit 197, ⟨.type "tuple", none, .seq #[.str (Str.ofString "self") 2526, .str (Str.ofString "name") 2527] 0, #[]⟩) ::
  (nat_lit 198, ⟨.type "tuple", none, .seq #[] 0, #[]⟩) ::
  (nat_lit 200, ⟨.type "code", none, .fields #[.str (Str.ofString "__contains__") 2523, .str (Str.ofString "Headers.__contains__") 2524, .str (Str.ofString "/claim/cut.py") 2525, .int 97 0, .int 2 0, .int 0 0, .int 0 0, .int 3 0, .ref 195, .bool true, .int 276 0, .ref 196, .none, .ref 197, .ref 198, .ref 199, .int 2528 0, .int 97 0, .str (Str.ofString "/claim/cut.py") 2529], #[]⟩) ::
  (nat_lit 201, ⟨.type "function", none, .func { name := (Str.ofString "__contains__"), qualname := (Str.ofString "Headers.__contains__"), params := M6.params, body := .stmts M6.body, scope := M6.scope, globals := 3, closure := [], defaults := .none, kwdefaults := .none, doc := .none, pyModule := .str (Str.ofString "cpy313.wsgiref.headers") 2355, annotations := none, code := .ref 200, closureTuple := .none, builtins := 0 }, #[]⟩) ::
  (nat_lit 202, ⟨.type "tuple", none, .seq #[] 0, #[]⟩) ::
  (nat_lit 204, ⟨.type "tuple", none, .seq #[.str (Str.ofString "self") 2534, .str (Str.ofString "name") 2535] 0, #[]⟩) ::
  (nat_lit 205, ⟨.type "tuple", none, .seq #[] 0, #[]⟩) ::
  (nat_lit 207, ⟨.type "code", none, .fields #[.str (Str.ofString "get_all") 2531, .str (Str.ofString "Headers.get_all") 2532, .str (Str.ofString "/claim/cut.py") 2533, .int 100 0, .int 2 0, .int 0 0, .int 0 0, .int 3 0, .ref 202, .bool true, .int 276 0, .ref 203, .none, .ref 204, .ref 205, .ref 206, .int 2536 0, .int 100 0, .str (Str.ofString "/claim/cut.py") 2537], #[]⟩) ::
  (nat_lit 208, ⟨.type "function", none, .func { name := (Str.ofString "get_all"), qualname := (Str.ofString "Headers.get_all"), params := M7.params, body := .stmts M7.body, scope := M7.scope, globals := 3, closure := [], defaults := .none, kwdefaults := .none, doc := .none, pyModule := .str (Str.ofString "cpy313.wsgiref.headers") 2355, annotations := none, code := .ref 207, closureTuple := .none, builtins := 0 }, #[]⟩) ::
  (nat_lit 209, ⟨.type "tuple", none, .seq #[.none] 0, #[]⟩) ::
  (nat_lit 210, ⟨.type "tuple", none, .seq #[] 0, #[]⟩) ::
  (nat_lit 212, ⟨.type "tuple", none, .seq #[.str (Str.ofString "self") 2542, .str (Str.ofString "name") 2543, .str (Str.ofString "default") 2544, .str (Str.ofString "k") 2545, .str (Str.ofString "v") 2546] 0, #[]⟩) ::
  (nat_lit 213, ⟨.type "tuple", none, .seq #[] 0, #[]⟩) ::
  (nat_lit 215, ⟨.type "code", none, .fields #[.str (Str.ofString "get") 2539, .str (Str.ofString "Headers.get") 2540, .str (Str.ofString "/claim/cut.py") 2541, .int 103 0, .int 3 0, .int 0 0, .int 0 0, .int 3 0, .ref 210, .bool true, .int 276 0, .ref 211, .none, .ref 212, .ref 213, .ref 214, .int 2547 0, .int 103 0, .str (Str.ofString "/claim/cut.py") 2548], #[]⟩) ::
  (nat_lit 216, ⟨.type "function", none, .func { name := (Str.ofString "get"), qualname := (Str.ofString "Headers.get"), params := M8.params, body := .stmts M8.body, scope := M8.scope, globals := 3, closure := [], defaults := .ref 209, kwdefaults := .none, doc := .none, pyModule := .str (Str.ofString "cpy313.wsgiref.headers") 2355, annotations := none, code := .ref 215, closureTuple := .none, builtins := 0 }, #[]⟩) ::
  (nat_lit 217, ⟨.type "tuple", none, .seq #[] 0, #[]⟩) ::
  (nat_lit 220, ⟨.type "code", none, .fields #[.str (Str.ofString "keys") 2550, .str (Str.ofString "Headers.keys") 2551, .str (Str.ofString "/claim/cut.py") 2552, .int 110 0, .int 1 0, .int 0 0, .int 0 0, .int 3 0, .ref 217, .bool true, .int 276 0, .ref 218, .none, .none, .none, .ref 219, .int 2553 0, .int 110 0, .str (Str.ofString "/claim/cut.py") 2554], #[]⟩) ::
  (nat_lit 221, ⟨.type "function", none, .func { name := (Str.ofString "keys"), qualname := (Str.ofString "Headers.keys"), params := M9.params, body := .stmts M9.body, scope := M9.scope, globals := 3, closure := [], defaults := .none, kwdefaults := .none, doc := .none, pyModule := .str (Str.ofString "cpy313.wsgiref.headers") 2355, annotations := none, code := .ref 220, closureTuple := .none, builtins := 0 }, #[]⟩) ::
  (nat_lit 222, ⟨.type "tuple", none, .seq #[] 0, #[]⟩) ::
  (nat_lit 225, ⟨.type "code", none, .fields #[.str (Str.ofString "values") 2556, .str (Str.ofString "Headers.values") 2557, .str (Str.ofString "/claim/cut.py") 2558, .int 113 0, .int 1 0, .int 0 0, .int 0 0, .int 3 0, .ref 222, .bool true, .int 276 0, .ref 223, .none, .none, .none, .ref 224, .int 2559 0, .int 113 0, .str (Str.ofString "/claim/cut.py") 2560], #[]⟩) ::
  (nat_lit 226, ⟨.type "function", none, .func { name := (Str.ofString "values"), qualname := (Str.ofString "Headers.values"), params := M10.params, body := .stmts M10.body, scope := M10.scope, globals := 3, closure := [], defaults := .none, kwdefaults := .none, doc := .none, pyModule := .str (Str.ofString "cpy313.wsgiref.headers") 2355, annotations := none, code := .ref 225, closureTuple := .none, builtins := 0 }, #[]⟩) ::
  (nat_lit 227, ⟨.type "tuple", none, .seq #[] 0, #[]⟩) ::
  (nat_lit 229, ⟨.type "tuple", none, .seq #[.str (Str.ofString "self") 2565] 0, #[]⟩) ::
  (nat_lit 230, ⟨.type "tuple", none, .seq #[] 0, #[]⟩) ::
  (nat_lit 232, ⟨.type "code", none, .fields #[.str (Str.ofString "items") 2562, .str (Str.ofString "Headers.items") 2563, .str (Str.ofString "/claim/cut.py") 2564, .int 116 0, .int 1 0, .int 0 0, .int 0 0, .int 3 0, .ref 227, .bool true, .int 276 0, .ref 228, .none, .ref 229, .ref 230, .ref 231, .int 2566 0, .int 116 0, .str (Str.ofString "/claim/cut.py") 2567], #[]⟩) ::
  (nat_lit 233, ⟨.type "function", none, .func { name := (Str.ofString "items"), qualname := (Str.ofString "Headers.items"), params := M11.params, body := .stmts M11.body, scope := M11.scope, globals := 3, closure := [], defaults := .none, kwdefaults := .none, doc := .none, pyModule := .str (Str.ofString "cpy313.wsgiref.headers") 2355, annotations := none, code := .ref 232, closureTuple := .none, builtins := 0 }, #[]⟩) ::
  (nat_lit 234, ⟨.type "tuple", none, .seq #[] 0, #[]⟩) ::
  (nat_lit 236, ⟨.type "tuple", none, .seq #[.str (Str.ofString "self") 2572] 0, #[]⟩) ::
  (nat_lit 237, ⟨.type "tuple", none, .seq #[] 0, #[]⟩) ::
  (nat_lit 239, ⟨.type "code", none, .fields #[.str (Str.ofString "__repr__") 2569, .str (Str.ofString "Headers.__repr__") 2570, .str (Str.ofString "/claim/cut.py") 2571, .int 119 0, .int 1 0, .int 0 0, .int 0 0, .int 3 0, .ref 234, .bool true, .int 276 0, .ref 235, .none, .ref 236, .ref 237, .ref 238, .int 2573 0, .int 119 0, .str (Str.ofString "/claim/cut.py") 2574], #[]⟩) ::
  (nat_lit 240, ⟨.type "function", none, .func { name := (Str.ofString "__repr__"), qualname := (Str.ofString "Headers.__repr__"), params := M12.params, body := .stmts M12.body, scope := M12.scope, globals := 3, closure := [], defaults := .none, kwdefaults := .none, doc := .none, pyModule := .str (Str.ofString "cpy313.wsgiref.headers") 2355, annotations := none, code := .ref 239, closureTuple := .none, builtins := 0 }, #[]⟩) ::
  (nat_lit 241, ⟨.type "tuple", none, .seq #[] 0, #[]⟩) ::
  (nat_lit 244, ⟨.type "code", none, .fields #[.str (Str.ofString "__str__") 2576, .str (Str.ofString "Headers.__str__") 2577, .str (Str.ofString "/claim/cut.py") 2578, .int 122 0, .int 1 0, .int 0 0, .int 0 0, .int 3 0, .ref 241, .bool true, .int 276 0, .ref 242, .none, .none, .none, .ref 243, .int 2579 0, .int 122 0, .str (Str.ofString "/claim/cut.py") 2580], #[]⟩) ::
  (nat_lit 245, ⟨.type "function", none, .func { name := (Str.ofString "__str__"), qualname := (Str.ofString "Headers.__str__"), params := M13.params, body := .stmts M13.body, scope := M13.scope, globals := 3, closure := [], defaults := .none, kwdefaults := .none, doc := .none, pyModule := .str (Str.ofString "cpy313.wsgiref.headers") 2355, annotations := none, code := .ref 244, closureTuple := .none, builtins := 0 }, #[]⟩) ::
  (nat_lit 246, ⟨.type "tuple", none, .seq #[] 0, #[]⟩) ::
  (nat_lit 248, ⟨.type "tuple", none, .seq #[.str (Str.ofString "self") 2585] 0, #[]⟩) ::
  (nat_lit 249, ⟨.type "tuple", none, .seq #[] 0, #[]⟩) ::
  (nat_lit 251, ⟨.type "code", none, .fields #[.str (Str.ofString "__bytes__") 2582, .str (Str.ofString "Headers.__bytes__") 2583, .str (Str.ofString "/claim/cut.py") 2584, .int 125 0, .int 1 0, .int 0 0, .int 0 0, .int 3 0, .ref 246, .bool true, .int 276 0, .ref 247, .none, .ref 248, .ref 249, .ref 250, .int 2586 0, .int 125 0, .str (Str.ofString "/claim/cut.py") 2587], #[]⟩) ::
  (nat_lit 252, ⟨.type "function", none, .func { name := (Str.ofString "__bytes__"), qualname := (Str.ofString "Headers.__bytes__"), params := M14.params, body := .stmts M14.body, scope := M14.scope, globals := 3, closure := [], defaults := .none, kwdefaults := .none, doc := .none, pyModule := .str (Str.ofString "cpy313.wsgiref.headers") 2355, annotations := none, code := .ref 251, closureTuple := .none, builtins := 0 }, #[]⟩) ::
  (nat_lit 253, ⟨.type "tuple", none, .seq #[] 0, #[]⟩) ::
  (nat_lit 255, ⟨.type "tuple", none, .seq #[.str (Str.ofString "self") 2592, .str (Str.ofString "name") 2593, .str (Str.ofString "value") 2594] 0, #[]⟩) ::
  (nat_lit 256, ⟨.type "tuple", none, .seq #[] 0, #[]⟩) ::
  (nat_lit 258, ⟨.type "code", none, .fields #[.str (Str.ofString "setdefault") 2589, .str (Str.ofString "Headers.setdefault") 2590, .str (Str.ofString "/claim/cut.py") 2591, .int 128 0, .int 3 0, .int 0 0, .int 0 0, .int 3 0, .ref 253, .bool true, .int 276 0, .ref 254, .none, .ref 255, .ref 256, .ref 257, .int 2595 0, .int 128 0, .str (Str.ofString "/claim/cut.py") 2596], #[]⟩) ::
  (nat_lit 259, ⟨.type "function", none, .func { name := (Str.ofString "setdefault"), qualname := (Str.ofString "Headers.setdefault"), params := M15.params, body := .stmts M15.body, scope := M15.scope, globals := 3, closure := [], defaults := .none, kwdefaults := .none, doc := .none, pyModule := .str (Str.ofString "cpy313.wsgiref.headers") 2355, annotations := none, code := .ref 258, closureTuple := .none, builtins := 0 }, #[]⟩) ::
  (nat_lit 260, ⟨.type "tuple", none, .seq #[] 0, #[]⟩) ::
  (nat_lit 262, ⟨.type "tuple", none, .seq #[.str (Str.ofString "self") 2601, .str (Str.ofString "_name") 2602, .str (Str.ofString "_value") 2603, .str (Str.ofString "_params") 2604, .str (Str.ofString "parts") 2605, .str (Str.ofString "k") 2606, .str (Str.ofString "v") 2607] 0, #[]⟩) ::
  (nat_lit 263, ⟨.type "tuple", none, .seq #[] 0, #[]⟩) ::
  (nat_lit 265, ⟨.type "code", none, .fields #[.str (Str.ofString "add_header") 2598, .str (Str.ofString "Headers.add_header") 2599, .str (Str.ofString "/claim/cut.py") 2600, .int 131 0, .int 3 0, .int 0 0, .int 0 0, .int 11 0, .ref 260, .bool true, .int 276 0, .ref 261, .none, .ref 262, .ref 263, .ref 264, .int 2608 0, .int 131 0, .str (Str.ofString "/claim/cut.py") 2609], #[]⟩) ::
  (nat_lit 266, ⟨.type "function", none, .func { name := (Str.ofString "add_header"), qualname := (Str.ofString "Headers.add_header"), params := M16.params, body := .stmts M16.body, scope := M16.scope, globals := 3, closure := [], defaults := .none, kwdefaults := .none, doc := .none, pyModule := .str (Str.ofString "cpy313.wsgiref.headers") 2355, annotations := none, code := .ref 265, closureTuple := .none, builtins := 0 }, #[]⟩) ::
  (nat_lit 267, ⟨.type "tuple", none, .seq #[.str (Str.ofString "_headers") 2611] 0, #[]⟩) ::
  (nat_lit 268, ⟨.type "dict", none, .dict #[⟨PyData.keyHash P (Str.ofString "__module__"), .str (Str.ofString "__module__") 2468, .str (Str.ofString "cpy313.wsgiref.headers") 2355⟩, ⟨PyData.keyHash P (Str.ofString "__firstlineno__"), .str (Str.ofString "__firstlineno__") 2472, .int 63 2471⟩, ⟨PyData.keyHash P (Str.ofString "__init__"), .str (Str.ofString "__init__") 2482, .ref 161⟩, ⟨PyData.keyHash P (Str.ofString "_convert_string_type"), .str (Str.ofString "_convert_string_type") 2492, .ref 168⟩, ⟨PyData.keyHash P (Str.ofString "__len__"), .str (Str.ofString "__len__") 2499, .ref 175⟩, ⟨PyData.keyHash P (Str.ofString "__setitem__"), .str (Str.ofString "__setitem__") 2508, .ref 182⟩, ⟨PyData.keyHash P (Str.ofString "__delitem__"), .str (Str.ofString "__delitem__") 2514, .ref 187⟩, ⟨PyData.keyHash P (Str.ofString "__getitem__"), .str (Str.ofString "__getitem__") 2522, .ref 194⟩, ⟨PyData.keyHash P (Str.ofString "__contains__"), .str (Str.ofString "__contains__") 2530, .ref 201⟩, ⟨PyData.keyHash P (Str.ofString "get_all"), .str (Str.ofString "get_all") 2538, .ref 208⟩, ⟨PyData.keyHash P (Str.ofString "get"), .str (Str.ofString "get") 2549, .ref 216⟩, ⟨PyData.keyHash P (Str.ofString "keys"), .str (Str.ofString "keys") 2555, .ref 221⟩, ⟨PyData.keyHash P (Str.ofString "values"), .str (Str.ofString "values") 2561, .ref 226⟩, ⟨PyData.keyHash P (Str.ofString "items"), .str (Str.ofString "items") 2568, .ref 233⟩, ⟨PyData.keyHash P (Str.ofString "__repr__"), .str (Str.ofString "__repr__") 2575, .ref 240⟩, ⟨PyData.keyHash P (Str.ofString "__str__"), .str (Str.ofString "__str__") 2581, .ref 245⟩, ⟨PyData.keyHash P (Str.ofString "__bytes__"), .str (Str.ofString "__bytes__") 2588, .ref 252⟩, ⟨PyData.keyHash P (Str.ofString "setdefault"), .str (Str.ofString "setdefault") 2597, .ref 259⟩, ⟨PyData.keyHash P (Str.ofString "add_header"), .str (Str.ofString "add_header") 2610, .ref 266⟩, ⟨PyData.keyHash P (Str.ofString "__static_attributes__"), .str (Str.ofString "__static_attributes__") 2612, .ref 267⟩, ⟨PyData.keyHash P (Str.ofString "__dict__"), .str (Str.ofString "__dict__") 2614, .ref 270⟩, ⟨PyData.keyHash P (Str.ofString "__weakref__"), .str (Str.ofString "__weakref__") 2616, .ref 271⟩, ⟨PyData.keyHash P (Str.ofString "__doc__"), .str (Str.ofString "__doc__") 2617, .none⟩] 4, #[]⟩) ::
  (nat_lit 269, ⟨.type "type", none, .cls { name := (Str.ofString "Headers"), bases := [.type "object"], mro := [.ref 269, .type "object"], ns := 268, qualname := (Str.ofString "Headers"), hasDict := true, slotNames := [], subclasses := [], abstract := false, collection := none, hasDel := false }, #[none, none, (some (.str (Str.ofString "Headers") 2461)), (some (.str (Str.ofString "Headers") 2469)), (some (.builtin "object.__new__")), (some (.bool true))]⟩) ::
  (nat_lit 270, ⟨.type "getset_descriptor", none, .fields #[.str (Str.ofString "__dict__") 2613, .ref 269, .builtin "function.__dict__", .builtin "function.__dict__#set"], #[]⟩) ::
  (nat_lit 271, ⟨.type "getset_descriptor", none, .fields #[.str (Str.ofString "__weakref__") 2615, .ref 269, .builtin "ExceptionGroup.__weakref__", .none], #[]⟩) ::
  (nat_lit 274, ⟨.type "tuple", none, .seq #[] 0, #[]⟩) ::
  (nat_lit 277, ⟨.type "code", none, .fields #[.str (Str.ofString "_law_given") 2622, .str (Str.ofString "_law_given") 2623, .str (Str.ofString "/claim/cut.py") 2624, .int 145 0, .int 1 0, .int 0 0, .int 0 0, .int 3 0, .ref 274, .bool true, .int 276 0, .ref 275, .none, .none, .none, .ref 276, .int 2625 0, .int 145 0, .str (Str.ofString "/claim/cut.py") 2626], #[]⟩) ::
  (nat_lit 278, ⟨.type "function", none, .func { name := (Str.ofString "_law_given"), qualname := (Str.ofString "_law_given"), params := T21.params, body := .stmts T21.body, scope := T21.scope, globals := 3, closure := [], defaults := .none, kwdefaults := .none, doc := .none, pyModule := .str (Str.ofString "law_to0082_01") 2620, annotations := none, code := .ref 277, closureTuple := .none, builtins := 0 }, #[]⟩) ::
  (nat_lit 279, ⟨.type "tuple", none, .seq #[] 0, #[]⟩) ::
  (nat_lit 281, ⟨.type "tuple", none, .seq #[.str (Str.ofString "x") 2631, .str (Str.ofString "start") 2632, .str (Str.ofString "shop") 2633] 0, #[]⟩) ::
  (nat_lit 282, ⟨.type "tuple", none, .seq #[] 0, #[]⟩) ::
  (nat_lit 284, ⟨.type "code", none, .fields #[.str (Str.ofString "_law_piece") 2628, .str (Str.ofString "_law_piece") 2629, .str (Str.ofString "/claim/cut.py") 2630, .int 148 0, .int 1 0, .int 0 0, .int 0 0, .int 3 0, .ref 279, .bool true, .int 276 0, .ref 280, .none, .ref 281, .ref 282, .ref 283, .int 2634 0, .int 148 0, .str (Str.ofString "/claim/cut.py") 2635], #[]⟩) ::
  (nat_lit 285, ⟨.type "function", none, .func { name := (Str.ofString "_law_piece"), qualname := (Str.ofString "_law_piece"), params := T22.params, body := .stmts T22.body, scope := T22.scope, globals := 3, closure := [], defaults := .none, kwdefaults := .none, doc := .none, pyModule := .str (Str.ofString "law_to0082_01") 2620, annotations := none, code := .ref 284, closureTuple := .none, builtins := 0 }, #[]⟩) ::
  (nat_lit 286, ⟨.type "tuple", none, .seq #[] 0, #[]⟩) ::
  (nat_lit 288, ⟨.type "tuple", none, .seq #[.str (Str.ofString "x") 2640, .str (Str.ofString "rules") 2641, .str (Str.ofString "mind") 2642, .str (Str.ofString "sign") 2643] 0, #[]⟩) ::
  (nat_lit 289, ⟨.type "tuple", none, .seq #[] 0, #[]⟩) ::
  (nat_lit 291, ⟨.type "code", none, .fields #[.str (Str.ofString "_law_rules") 2637, .str (Str.ofString "_law_rules") 2638, .str (Str.ofString "/claim/cut.py") 2639, .int 152 0, .int 1 0, .int 0 0, .int 0 0, .int 3 0, .ref 286, .bool true, .int 276 0, .ref 287, .none, .ref 288, .ref 289, .ref 290, .int 2644 0, .int 152 0, .str (Str.ofString "/claim/cut.py") 2645], #[]⟩) ::
  (nat_lit 292, ⟨.type "function", none, .func { name := (Str.ofString "_law_rules"), qualname := (Str.ofString "_law_rules"), params := T23.params, body := .stmts T23.body, scope := T23.scope, globals := 3, closure := [], defaults := .none, kwdefaults := .none, doc := .none, pyModule := .str (Str.ofString "law_to0082_01") 2620, annotations := none, code := .ref 291, closureTuple := .none, builtins := 0 }, #[]⟩) ::
  (nat_lit 293, ⟨.type "tuple", none, .seq #[] 0, #[]⟩) ::
  (nat_lit 295, ⟨.type "tuple", none, .seq #[.str (Str.ofString "rules") 2650, .str (Str.ofString "page") 2651, .str (Str.ofString "name") 2652, .str (Str.ofString "goal") 2653, .str (Str.ofString "right") 2654] 0, #[]⟩) ::
  (nat_lit 296, ⟨.type "tuple", none, .seq #[] 0, #[]⟩) ::
  (nat_lit 298, ⟨.type "code", none, .fields #[.str (Str.ofString "_law_page") 2647, .str (Str.ofString "_law_page") 2648, .str (Str.ofString "/claim/cut.py") 2649, .int 162 0, .int 1 0, .int 0 0, .int 0 0, .int 3 0, .ref 293, .bool true, .int 276 0, .ref 294, .none, .ref 295, .ref 296, .ref 297, .int 2655 0, .int 162 0, .str (Str.ofString "/claim/cut.py") 2656], #[]⟩) ::
  (nat_lit 299, ⟨.type "function", none, .func { name := (Str.ofString "_law_page"), qualname := (Str.ofString "_law_page"), params := T24.params, body := .stmts T24.body, scope := T24.scope, globals := 3, closure := [], defaults := .none, kwdefaults := .none, doc := .none, pyModule := .str (Str.ofString "law_to0082_01") 2620, annotations := none, code := .ref 298, closureTuple := .none, builtins := 0 }, #[]⟩) ::
  (nat_lit 300, ⟨.type "tuple", none, .seq #[] 0, #[]⟩) ::
  (nat_lit 302, ⟨.type "tuple", none, .seq #[.str (Str.ofString "page") 2661, .str (Str.ofString "tape") 2662, .str (Str.ofString "mind") 2663, .str (Str.ofString "at") 2664, .str (Str.ofString "firsts") 2665, .str (Str.ofString "step") 2666, .str (Str.ofString "goal") 2667] 0, #[]⟩) ::
  (nat_lit 303, ⟨.type "tuple", none, .seq #[] 0, #[]⟩) ::
  (nat_lit 305, ⟨.type "code", none, .fields #[.str (Str.ofString "_law_walk") 2658, .str (Str.ofString "_law_walk") 2659, .str (Str.ofString "/claim/cut.py") 2660, .int 167 0, .int 4 0, .int 0 0, .int 0 0, .int 3 0, .ref 300, .bool true, .int 276 0, .ref 301, .none, .ref 302, .ref 303, .ref 304, .int 2668 0, .int 167 0, .str (Str.ofString "/claim/cut.py") 2669], #[]⟩) ::
  (nat_lit 306, ⟨.type "function", none, .func { name := (Str.ofString "_law_walk"), qualname := (Str.ofString "_law_walk"), params := T25.params, body := .stmts T25.body, scope := T25.scope, globals := 3, closure := [], defaults := .none, kwdefaults := .none, doc := .none, pyModule := .str (Str.ofString "law_to0082_01") 2620, annotations := none, code := .ref 305, closureTuple := .none, builtins := 0 }, #[]⟩) ::
  (nat_lit 307, ⟨.type "tuple", none, .seq #[] 0, #[]⟩) ::
  (nat_lit 309, ⟨.type "tuple", none, .seq #[.str (Str.ofString "known") 2674, .str (Str.ofString "mind") 2675, .str (Str.ofString "sign") 2676, .str (Str.ofString "told") 2677, .str (Str.ofString "turn") 2678, .str (Str.ofString "goal") 2679, .str (Str.ofString "right") 2680] 0, #[]⟩) ::
  (nat_lit 310, ⟨.type "tuple", none, .seq #[] 0, #[]⟩) ::
  (nat_lit 312, ⟨.type "code", none, .fields #[.str (Str.ofString "_law_out") 2671, .str (Str.ofString "_law_out") 2672, .str (Str.ofString "/claim/cut.py") 2673, .int 178 0, .int 4 0, .int 0 0, .int 0 0, .int 3 0, .ref 307, .bool true, .int 276 0, .ref 308, .none, .ref 309, .ref 310, .ref 311, .int 2681 0, .int 178 0, .str (Str.ofString "/claim/cut.py") 2682], #[]⟩) ::
  (nat_lit 313, ⟨.type "function", none, .func { name := (Str.ofString "_law_out"), qualname := (Str.ofString "_law_out"), params := T26.params, body := .stmts T26.body, scope := T26.scope, globals := 3, closure := [], defaults := .none, kwdefaults := .none, doc := .none, pyModule := .str (Str.ofString "law_to0082_01") 2620, annotations := none, code := .ref 312, closureTuple := .none, builtins := 0 }, #[]⟩) ::
  (nat_lit 314, ⟨.type "tuple", none, .seq #[] 0, #[]⟩) ::
  (nat_lit 317, ⟨.type "code", none, .fields #[.str (Str.ofString "_law_numbers") 2684, .str (Str.ofString "_law_numbers") 2685, .str (Str.ofString "/claim/cut.py") 2686, .int 187 0, .int 2 0, .int 0 0, .int 0 0, .int 3 0, .ref 314, .bool true, .int 276 0, .ref 315, .none, .none, .none, .ref 316, .int 2687 0, .int 187 0, .str (Str.ofString "/claim/cut.py") 2688], #[]⟩) ::
  (nat_lit 318, ⟨.type "function", none, .func { name := (Str.ofString "_law_numbers"), qualname := (Str.ofString "_law_numbers"), params := T27.params, body := .stmts T27.body, scope := T27.scope, globals := 3, closure := [], defaults := .none, kwdefaults := .none, doc := .none, pyModule := .str (Str.ofString "law_to0082_01") 2620, annotations := none, code := .ref 317, closureTuple := .none, builtins := 0 }, #[]⟩) ::
  (nat_lit 319, ⟨.type "tuple", none, .seq #[] 0, #[]⟩) ::
  (nat_lit 321, ⟨.type "tuple", none, .seq #[.str (Str.ofString "page") 2693, .str (Str.ofString "tape") 2694, .str (Str.ofString "numbers") 2695, .str (Str.ofString "last") 2696, .str (Str.ofString "j") 2697, .str (Str.ofString "i") 2698] 0, #[]⟩) ::
  (nat_lit 322, ⟨.type "tuple", none, .seq #[] 0, #[]⟩) ::
  (nat_lit 324, ⟨.type "code", none, .fields #[.str (Str.ofString "_law_cut") 2690, .str (Str.ofString "_law_cut") 2691, .str (Str.ofString "/claim/cut.py") 2692, .int 194 0, .int 4 0, .int 0 0, .int 0 0, .int 3 0, .ref 319, .bool true, .int 276 0, .ref 320, .none, .ref 321, .ref 322, .ref 323, .int 2699 0, .int 194 0, .str (Str.ofString "/claim/cut.py") 2700], #[]⟩) ::
  (nat_lit 325, ⟨.type "function", none, .func { name := (Str.ofString "_law_cut"), qualname := (Str.ofString "_law_cut"), params := T28.params, body := .stmts T28.body, scope := T28.scope, globals := 3, closure := [], defaults := .none, kwdefaults := .none, doc := .none, pyModule := .str (Str.ofString "law_to0082_01") 2620, annotations := none, code := .ref 324, closureTuple := .none, builtins := 0 }, #[]⟩) ::
  (nat_lit 326, ⟨.type "tuple", none, .seq #[] 0, #[]⟩) ::
  (nat_lit 329, ⟨.type "code", none, .fields #[.str (Str.ofString "law") 2702, .str (Str.ofString "law") 2703, .str (Str.ofString "/claim/cut.py") 2704, .int 200 0, .int 1 0, .int 0 0, .int 0 0, .int 3 0, .ref 326, .bool true, .int 276 0, .ref 327, .none, .none, .none, .ref 328, .int 2705 0, .int 200 0, .str (Str.ofString "/claim/cut.py") 2706], #[]⟩) ::
  (nat_lit 330, ⟨.type "function", none, .func { name := (Str.ofString "law"), qualname := (Str.ofString "law"), params := T29.params, body := .stmts T29.body, scope := T29.scope, globals := 3, closure := [], defaults := .none, kwdefaults := .none, doc := .none, pyModule := .str (Str.ofString "law_to0082_01") 2620, annotations := none, code := .ref 329, closureTuple := .none, builtins := 0 }, #[]⟩) :: []
noncomputable def asK : List Addr := [2, 3, 32, 34, 35, 37, 38, 46, 50, 52, 53, 55, 56, 57, 96, 98, 99, 101, 102, 103, 105, 106, 108, 109, 110, 112, 113, 115, 116, 117, 119, 120, 122, 123, 127, 128, 132, 133, 137, 138, 139, 140, 142, 143, 145, 146, 154, 155, 157, 158, 160, 161, 162, 164, 165, 167, 168, 169, 171, 172, 174, 175, 176, 178, 179, 181, 182, 183, 186, 187, 188, 190, 191, 193, 194, 195, 197, 198, 200, 201, 202, 204, 205, 207, 208, 209, 210, 212, 213, 215, 216, 217, 220, 221, 222, 225, 226, 227, 229, 230, 232, 233, 234, 236, 237, 239, 240, 241, 244, 245, 246, 248, 249, 251, 252, 253, 255, 256, 258, 259, 260, 262, 263, 265, 266, 267, 268, 269, 270, 271, 274, 277, 278, 279, 281, 282, 284, 285, 286, 288, 289, 291, 292, 293, 295, 296, 298, 299, 300, 302, 303, 305, 306, 307, 309, 310, 312, 313, 314, 317, 318, 319, 321, 322, 324, 325, 326, 329, 330]
set_option maxHeartbeats 0
theorem asK_is (P : Params) : asK = (KF P).map (·.1) := rfl
noncomputable def KT : Params → Frag := fun P => (nat_lit 104, tabObj #[]) :: (nat_lit 111, tabObj #[]) :: KF P
noncomputable def asT : List Addr := 104 :: 111 :: asK
theorem asT_is (P : Params) : asT = (KT P).map (·.1) := rfl
end Mine
end

section
open PySem PySem.W PyProof.Rows
set_option Elab.async false
set_option maxRecDepth 100000
set_option maxHeartbeats 0
namespace Mine
noncomputable abbrev obsT (l : List Addr) (s : SharedT) : List (Bool × Option (Option Obj)) := l.map fun a => (Nat.blt a s.n, (s.tree.get a).map alive)
noncomputable abbrev lookF (x : Shared × SharedT) := ((staticsOk mods x.1.heap x.2.abs.heap && namesBound PW x.2.abs.heap && gensDone x.2.abs && laidKept x.1.heap x.2.abs.heap && (x.1.heap.isNs mainGlobals && x.1.gens.size == 0) && (x.1.heap.objs.size == 28), x.2.abs.heap.keysOk (looseW qv looseL) ((recsOf qv).map (·.name)) ((litsOf qv).map (·.1)) ((clssOf qv (looseW qv looseL)).map (·.name)) && x.2.abs.heap.accountedOkI mods && x.2.abs.heap.isNs mainGlobals && x.2.abs.heap.isNs builtinsNs && tablesOk qv x.2.abs.heap && XtL x.2.abs && (x.2.abs.gens.size == 0), tabsOk qv x.2.abs, x.2.abs.heap.bltView), ((seen ((recsOf qv).map (·.name)) (ownsOf qv) [] { x.2.abs with gens := #[] }, pinSeenD qv (drecsOf qv) x.2.abs)), ((plainSeenE qv (looseW qv looseL) x.2.abs, plainSeenD qv looseL x.2.abs, wideSeen qv x.2.abs, clsSeenW qv looseL x.2.abs)), obsT asT x.2, obsT keepL x.2)
noncomputable abbrev lookG (P : Params) (x : Shared × SharedT) := (((true, true, true, bltViewBooted)), ((expectedOf qv, pinGoodD (drecsOf qv))), ((plainGoodE qv (looseW qv looseL), plainGoodD qv looseL, wideGood qv, clsGoodW qv looseL)), (KT P).map (fun p => (true, some (some p.2))), keepL.map (fun a => (true, some (x.1.heap.get? a))))
theorem look_true (w : World) (p : Pos) : ((total (w.withFollow "special-get-raises" true) p).isSome, (total (w.withFollow "special-get-raises" true) p).map lookF) = (true, (total (w.withFollow "special-get-raises" true) p).bind fun x => some (lookG (w.withFollow "special-get-raises" true).params x)) := by
  unfold total runA runC fencedOpening lookF lookG
  rw [table_eq_tree, PySem.W.Fast.te11892475500146522536, PySem.W.Fast.te14364793385576792824, PySem.W.Fast.te12563942051412417395, PySem.W.Fast.te10274390034422433532, PySem.W.Fast.te1435165496053646825, PySem.W.Fast.te14289696077712309145, PySem.W.Fast.te17154629097778926822, PySem.W.Fast.te12822647523644345616, PySem.W.Fast.te1066825118222455980, PySem.W.Fast.te10880121769531294198, PySem.W.Fast.te821141287760084731, PySem.W.Fast.te3399658132070893891, PySem.W.Fast.te7409074990110511671, PySem.W.Fast.te13664370479719496447, PySem.W.Fast.te14722251495701143533, PySem.W.Fast.te10994771534591457954, PySem.W.Fast.te479339242167458305, PySem.W.Fast.te5160383126252970620, PySem.W.Fast.te5991557255702980513, PySem.W.Fast.te16090120013241838585, PySem.W.Fast.te3247288618530077131, PySem.W.Fast.te2386780881361962483, PySem.W.Fast.te11698064438423848299, PySem.W.Fast.te7317090234206586261, PySem.W.Fast.te7369524293546568484]
  kernel_rfl
theorem look_false (w : World) (p : Pos) : ((total (w.withFollow "special-get-raises" false) p).isSome, (total (w.withFollow "special-get-raises" false) p).map lookF) = (true, (total (w.withFollow "special-get-raises" false) p).bind fun x => some (lookG (w.withFollow "special-get-raises" false).params x)) := by
  unfold total runA runC fencedOpening lookF lookG
  rw [table_eq_tree, PySem.W.Fast.te11892475500146522536, PySem.W.Fast.te14364793385576792824, PySem.W.Fast.te12563942051412417395, PySem.W.Fast.te10274390034422433532, PySem.W.Fast.te1435165496053646825, PySem.W.Fast.te14289696077712309145, PySem.W.Fast.te17154629097778926822, PySem.W.Fast.te12822647523644345616, PySem.W.Fast.te1066825118222455980, PySem.W.Fast.te10880121769531294198, PySem.W.Fast.te821141287760084731, PySem.W.Fast.te3399658132070893891, PySem.W.Fast.te7409074990110511671, PySem.W.Fast.te13664370479719496447, PySem.W.Fast.te14722251495701143533, PySem.W.Fast.te10994771534591457954, PySem.W.Fast.te479339242167458305, PySem.W.Fast.te5160383126252970620, PySem.W.Fast.te5991557255702980513, PySem.W.Fast.te16090120013241838585, PySem.W.Fast.te3247288618530077131, PySem.W.Fast.te2386780881361962483, PySem.W.Fast.te11698064438423848299, PySem.W.Fast.te7317090234206586261, PySem.W.Fast.te7369524293546568484]
  kernel_rfl
theorem look_all (w : World) (p : Pos) : ∀ b : Bool, ((total (w.withFollow "special-get-raises" b) p).isSome, (total (w.withFollow "special-get-raises" b) p).map lookF) = (true, (total (w.withFollow "special-get-raises" b) p).bind fun x => some (lookG (w.withFollow "special-get-raises" b).params x))
  | true => look_true w p
  | false => look_false w p
end Mine
end

section
open PySem PySem.W PyProof.Rows PySem.Calls
set_option Elab.async false
set_option maxRecDepth 100000
namespace Mine

theorem total_parts {w : World} {p : Pos} {x : Shared × SharedT} (h : total w p = some x) : ∃ x0 p4 s4, fencedOpening treeTable PW w 31000 = some x.1 ∧ toT x.1 = some x0 ∧ runA w x0 = some (p4, s4) ∧ runC w p s4 = some x.2 := by
  unfold total at h
  obtain ⟨s0, h0, h⟩ := Option.bind_eq_some_iff.mp h
  obtain ⟨x0, h1, h⟩ := Option.bind_eq_some_iff.mp h
  obtain ⟨⟨p4, s4⟩, h2, h⟩ := Option.bind_eq_some_iff.mp h
  obtain ⟨s7, h3, h⟩ := Option.bind_eq_some_iff.mp h
  cases h
  exact ⟨x0, p4, s4, h0, h1, h2, h3⟩

structure Fin7 (s0 s : Shared) : Prop where
  statics : staticsOk mods s0.heap s.heap = true
  names : namesBound PW s.heap = true
  gens : gensDone s = true
  laid : laidKept s0.heap s.heap = true
  main0 : s0.heap.isNs mainGlobals = true
  gens0 : s0.gens = #[]
  size0 : s0.heap.objs.size = 28
  seen : openSeen qv looseL mods XtL true s = openGood qv looseL
  keep : keepL.map s.heap.get? = keepL.map s0.heap.get?

theorem obs_one {s : SharedT} {a : Addr} {o : Option Obj} (h : (Nat.blt a s.n, (s.tree.get a).map alive) = (true, some o)) : s.abs.heap.get? a = o := by
  obtain ⟨h1, h2⟩ := Prod.mk.inj h
  cases g : s.tree.get a with
  | none => rw [g] at h2; cases h2
  | some x => rw [g] at h2; exact (abs_get (Nat.le_of_ble_eq_true h1) g).trans (Option.some.inj h2)
theorem obs_all {s : SharedT} {β : Type} {g : β → Option Obj} : ∀ {l : List Addr} {m : List β}, obsT l s = m.map (fun b => (true, some (g b))) → l.map s.abs.heap.get? = m.map g
  | [], [], _ => rfl
  | [], _ :: _, h => by cases h
  | _ :: _, [], h => by cases h
  | a :: l, b :: m, h => by
    obtain ⟨h1, h2⟩ := List.cons.inj h
    exact List.cons_eq_cons.mpr ⟨obs_one h1, obs_all h2⟩

theorem fin_all (w : World) (p : Pos) : ∃ x, total w p = some x ∧ Fin7 x.1 x.2.abs ∧ asT.map x.2.abs.heap.get? = (KT w.params).map fun p => some p.2 := by
  have e := World.withFollow_self w "special-get-raises"
  have a := look_all w p (w.params.followText "special-get-raises")
  rw [e] at a
  cases ht : total w p with
  | none => rw [ht] at a; cases congrArg Prod.fst a
  | some x =>
    rw [ht] at a
    have a := Option.some.inj (congrArg Prod.snd a)
    have b := congrArg (fun x => x.2.1) a
    have c := congrArg (fun x => x.2.2.1) a
    have o := congrArg (fun x => x.2.2.2.1) a
    have k := congrArg (fun x => x.2.2.2.2) a
    have a := congrArg Prod.fst a
    dsimp only at a b c o k
    refine ⟨x, rfl, ?_, obs_all o⟩
    have a1 := congrArg Prod.fst a
    have a2 := congrArg (fun x => x.2.1) a
    have a3 := congrArg (fun x => x.2.2.1) a
    have a4 := congrArg (fun x => x.2.2.2) a
    dsimp only at a1 a2 a3 a4
    simp only [Bool.and_eq_true] at a1
    obtain ⟨⟨⟨⟨⟨m1, m2⟩, m3⟩, m4⟩, m5, m6⟩, m7⟩ := a1
    have b1 := congrArg Prod.fst b
    have b2 := congrArg Prod.snd b
    have c1 := congrArg Prod.fst c
    have c2 := congrArg (fun x => x.2.1) c
    have c3 := congrArg (fun x => x.2.2.1) c
    have c4 := congrArg (fun x => x.2.2.2) c
    dsimp only at b1 b2 c1 c2 c3 c4
    refine ⟨m1, m2, m3, m4, m5, Array.eq_empty_of_size_eq_zero (beq_iff_eq.mp m6), beq_iff_eq.mp m7, ?_, obs_all k⟩
    unfold openSeen openGood
    refine Prod.ext b1 (Prod.ext a4 (Prod.ext ?_ (Prod.ext a3 (Prod.ext b2 (Prod.ext c1 (Prod.ext c2 (Prod.ext c3 c4)))))))
    exact a2

theorem map_mem {α β : Type} {f g : α → β} : ∀ {l : List α}, l.map f = l.map g → ∀ b ∈ l, f b = g b
  | [], _, b, hb => by cases hb
  | a :: l, e, b, hb => by
    rw [List.map_cons, List.map_cons] at e
    obtain ⟨e1, e2⟩ := List.cons.inj e
    rcases List.mem_cons.mp hb with rfl | hb
    · exact e1
    · exact map_mem e2 b hb
theorem keep_mem : ∀ b : Nat, b < 28 → b ≠ 2 → b ≠ 3 → b ∈ keepL := by decide
theorem behind {r : OpenRow} (hr : r.prog = PW) (hrec : r.records = []) {α : Type} {obs : Shared → α} {val : World → α} {YP : World → Heap → Prop} (hY : ∀ w s, obs s = val w → YP w s.heap)
    (ho : ∀ (w : World) (p : Pos), ∃ x, total w p = some x ∧ Fin7 x.1 x.2.abs ∧ obs x.2.abs = val w) (hch : chainsOk qv = true) (w : World) :
    (∃ s, AfterRun (opening r.prog) w s) ∧ ∀ s, AfterRun (opening r.prog) w s → ∃ s₀, fenceModules? r.prog s = some s₀ ∧ s₀.gens = #[] ∧ ∃ s₁, TopFacts r qv looseL (XL qv []) YP w s₀ s₁ := by
  have fin := fun p => ho w p
  obtain ⟨⟨s0, s7⟩, ht, hF, _⟩ := fin default
  obtain ⟨x0, p4, s4, h0, h1, h2, _⟩ := total_parts ht
  dsimp only at h0 h1
  have hC : ∀ p, ∃ s7, runC w p s4 = some s7 ∧ (fun s : Shared => Fin7 s0 s ∧ obs s = val w ∧ s.heap.life = s0.heap.life ∧ s.os = s0.os) s7.abs := by
    intro p
    obtain ⟨⟨s0', s7'⟩, ht', hF', ho'⟩ := fin p
    obtain ⟨x0', p4', s4', h0', h1', h2', h3'⟩ := total_parts ht'
    dsimp only at h0' h1' h3' hF' ho'
    obtain rfl := Option.some.inj (h0.symm.trans h0')
    obtain rfl := Option.some.inj (h1.symm.trans h1')
    obtain ⟨rfl, rfl⟩ := Prod.mk.inj (Option.some.inj (h2.symm.trans h2'))
    refine ⟨s7', h3', hF', ho', ?_⟩
    -- nothing turns the heap's life nor what lies outside
    have kA : s4.life = x0.life ∧ s4.os = x0.os := by
      unfold runA at h2
      obtain ⟨⟨v, p1, s1⟩, e1, h2⟩ := Option.bind_eq_some_iff.mp h2
      obtain ⟨_, g1, h2⟩ := Option.bind_eq_some_iff.mp h2
      obtain ⟨_, rfl⟩ := guardB_some g1
      obtain ⟨⟨a, p2, s2⟩, e2, h2⟩ := Option.bind_eq_some_iff.mp h2
      obtain ⟨_, g2, h2⟩ := Option.bind_eq_some_iff.mp h2
      obtain ⟨_, rfl⟩ := guardB_some g2
      obtain ⟨⟨u, p3, s3⟩, e3, h2⟩ := Option.bind_eq_some_iff.mp h2
      obtain ⟨_, g3, h2⟩ := Option.bind_eq_some_iff.mp h2
      obtain ⟨_, rfl⟩ := guardB_some g3
      obtain ⟨⟨f, q4, t4⟩, e4, h2⟩ := Option.bind_eq_some_iff.mp h2
      obtain ⟨_, g4⟩ := guardB_some h2
      cases g4
      have k1 := evW_keeps _ _ _ _ _ _ _ _ e1
      have k2 := evW_keeps _ _ _ _ _ _ _ _ e2
      have k3 := evW_keeps _ _ _ _ _ _ _ _ e3
      have k4 := evW_keeps _ _ _ _ _ _ _ _ e4
      exact ⟨k4.1.trans (k3.1.trans (k2.1.trans k1.1)), k4.2.2.trans (k3.2.2.trans (k2.2.2.trans k1.2.2))⟩
    have kC : s7'.life = s4.life ∧ s7'.os = s4.os := by
      unfold runC at h3'
      obtain ⟨s5, e5, h3'⟩ := Option.bind_eq_some_iff.mp h3'
      obtain ⟨⟨f6, p6, s6⟩, e6, h3'⟩ := Option.bind_eq_some_iff.mp h3'
      obtain ⟨_, g6, h3'⟩ := Option.bind_eq_some_iff.mp h3'
      obtain ⟨_, rfl⟩ := guardB_some g6
      obtain ⟨⟨f8, p8, s8⟩, e8, h3'⟩ := Option.bind_eq_some_iff.mp h3'
      obtain ⟨_, rfl⟩ := guardB_some h3'
      have k6 := evW_keeps _ _ _ _ _ _ _ _ e6
      have k8 := evW_keeps _ _ _ _ _ _ _ _ e8
      unfold addObjs at e5
      obtain ⟨t, _, rfl⟩ := Option.map_eq_some_iff.mp e5
      exact ⟨k8.1.trans k6.1, k8.2.2.trans k6.2.2⟩
    have ex := toT_abs h1
    subst ex
    exact ⟨kC.1.trans kA.1, kC.2.trans kA.2⟩
  have hboth : (importEnds treeTable (opening PW) w 31000 (start (opening PW)).1 (start (opening PW)).2).bind (fenceModules? PW) = some s0 := h0
  rw [← table_eq_tree] at hboth
  obtain ⟨s, h4, h5⟩ := Option.bind_eq_some_iff.mp hboth
  have A := AfterImport.of_importEnds h4
  rw [hr]
  refine ⟨⟨s, A⟩, fun s' hs' => ?_⟩
  obtain rfl : s' = s := AfterImport.unique hs' A
  have z : s0.asleep := Shared.asleep_of_life (fence_lifeW h5) A.life
  have hw := top_wp (P := fun s : Shared => Fin7 s0 s ∧ obs s = val w ∧ s.heap.life = s0.heap.life ∧ s.os = s0.os) h1 hF.gens0 h2 hC
  obtain ⟨s₁, n, t₁, hrun, hth, ⟨hF1, ho1, hl1, hos1⟩, hg1⟩ := top_of_wp (P := fun s : Shared => Fin7 s0 s ∧ obs s = val w ∧ s.heap.life = s0.heap.life ∧ s.os = s0.os) z hw
  refine ⟨s0, h5, hF.gens0, s₁, ?_⟩
  obtain ⟨G, g0, g1, g2, g3, g4, g5⟩ := ground_of_open (w := w) (XP := fun mg h => XL qv [] mg h ∧ RecFacts [] h) (fun s e => ⟨xl_of s (Bool.and_eq_true_iff.mp e).1, recFacts_of (Bool.and_eq_true_iff.mp e).2⟩) hch hF1.seen
  unfold TopFacts
  rw [hr, hrec]
  refine ⟨⟨⟨n, t₁, hrun, hth⟩, hl1, Shared.rest_eq hos1, ?_, g2, statics_of_ok hF1.statics, g3, g4, g5, gens_of_done hF1.gens, names_of_bound hF1.names, laid_of_kept hF1.laid⟩, Shared.asleep_of_life hl1 z, hg1, g1, G, hY w s₁ ho1⟩
  intro b o hb hn
  have hlt : b < 28 := by
    have := Heap.lt_size hb
    rw [hF1.size0] at this
    exact this
  have hb2 : b ≠ 2 := fun e => hn (.inr (.inl e))
  have hb3 : b ≠ 3 := fun e => hn (.inl e)
  have hm : b ∈ keepL := keep_mem b hlt hb2 hb3
  exact (map_mem hF1.keep b hm).trans hb
end Mine
end

section
open PySem PySem.W PyProof.Rows PySem.Calls
set_option Elab.async false
set_option maxRecDepth 100000
set_option maxHeartbeats 8000000
namespace Mine
abbrev RW := PySem.Challenge.rw_to0082_01
noncomputable abbrev dLaw : DefRec := (⟨_, rfl⟩ : {x : DefRec // defOf qv (Str.ofString "law") = some (x, [])}).val
end Mine
end

section
open PySem PySem.W PyProof.Rows PySem.Calls
set_option Elab.async false
set_option maxRecDepth 100000
set_option maxHeartbeats 0
namespace Mine
theorem law_said : RW.wellSaid = true := by
  unfold OpenLaw.wellSaid OpenRow.wellSaid OpenRow.partSaid looksOpen
  rw [PySem.W.Fast.te11788848310118352699, PySem.W.Fast.te2368527892694137696, PySem.W.Fast.te9807087744658564304, PySem.W.Fast.te12862048085361865435, PySem.W.Fast.te8377067652309620493, PySem.W.Fast.te8326940854005059898, PySem.W.Fast.te5923862056798008813, PySem.W.Fast.te3471404346716756564, PySem.W.Fast.te17691160309236699985, PySem.W.Fast.te13343964577679436407, PySem.W.Fast.te17119622794617984870, PySem.W.Fast.te17868728402115742887, PySem.W.Fast.te797321630700447069, PySem.W.Fast.te9572597257264208301, PySem.W.Fast.te6984425678791042302, PySem.W.Fast.te10792542408131684335, PySem.W.Fast.te16286561074155671207, PySem.W.Fast.te8179353310426384613, PySem.W.Fast.te17095254045102204799, PySem.W.Fast.te12879404354523853263, PySem.W.Fast.te18344453789297297638, PySem.W.Fast.te14412699480532031325, PySem.W.Fast.te12749700546528644094, PySem.W.Fast.te10501279942588096481, PySem.W.Fast.te9558739934217749035, PySem.W.Fast.te7723801398212525404, PySem.W.Fast.named_eq, PySem.W.Fast.sDec_eq]
  repeat' (with_reducible refine look_both ?_ ?_)
  all_goals (as_aux_lemma => kernel_rfl)
theorem kt_in {w : World} {h : Heap} (Y : InK KT w h) : (KF w.params).In h ∧ h.get? 104 = some (tabObj #[]) ∧ h.get? 111 = some (tabObj #[]) := by
  refine ⟨fun a o e => Y a o ?_, Y 104 _ rfl, Y 111 _ rfl⟩
  have n1 : a ≠ 104 := fun q => by subst q; exact absurd e (by show ¬ ((KF w.params).lookup 104 = some o); rw [show (KF w.params).lookup 104 = none from rfl]; exact fun q => by cases q)
  have n2 : a ≠ 111 := fun q => by subst q; exact absurd e (by show ¬ ((KF w.params).lookup 111 = some o); rw [show (KF w.params).lookup 111 = none from rfl]; exact fun q => by cases q)
  show List.lookup a ((104, tabObj #[]) :: (111, tabObj #[]) :: KF w.params) = some o
  rw [List.lookup_cons, List.lookup_cons, beq_eq_false_iff_ne.mpr n1, beq_eq_false_iff_ne.mpr n2]
  exact e
theorem hd2 (walk : WalkO qv looseL (XL qv []) (InK KT) RW.row.toRowW dLaw [] fun f vs => PySem.call f vs) : RW.Holds := by
  refine holds_law law_said fun said => ?_
  refine holds_from (q := qv) (loose := looseL) (XP := XL qv []) (YP := InK KT) (d := dLaw) (kwd := [])
    (behind (obs := fun s => asT.map s.heap.get?) (val := fun w => (KT w.params).map fun p => some p.2) rfl rfl (fun w s e => InK.of asT_is w s e) fin_all (by decide +kernel))
    (fun w h h' x k => InK.keeps w h h' x k) XL.keeps (by rfl) (by rfl) (by rfl) (by rfl) (by first | assumption | decide +kernel) (by decide +kernel) ⟨rfl, rfl, rfl, rfl, rfl, by decide +kernel⟩ ?hw walk
  case hw => w_witness2
end Mine
end

section
open PySem PySem.W PyProof.Rows PySem.Spec PySem.Calls
set_option Elab.async false
set_option maxRecDepth 100000
namespace Mine
/-- the loose names of the law's own ground, the code tables laid aside -/
noncomputable abbrev LN : List Str := looseW qv looseL ++ (recsOf qv).map (fun x => x.name) ++ (litsOf qv).map (fun x => x.1) ++ (clssOf qv (looseW qv looseL)).map (fun x => x.name)
theorem fill : RW = RW ∧ KF = KF := by
  k_fill
  exact ⟨rfl, rfl⟩
/-- what a def's call may stand on, and what it leaves: its answer and the same ledger -/
noncomputable abbrev CallOk (w : World) (f : Addr) (vs : List Value) (c : Nat) (news : List (Addr × Obj)) (R : Tok → Value) : Prop :=
  ∀ (mean : ExcName → Option Value) (mg mb : Str → Option Value) (dp un : Nat) (gd : Option (List Code)) (cn : Str) (cs : Scope) (a : Addr) (ccd : Value) (cl : List (Str × Addr)) (outer : List Env) (A₀ : Around) (base h₀ : Heap) (L : Addr)
    (m : Str → Option Value) (s : Shared) (Q E : Value → Shared → Prop),
    Below A₀ base outer h₀ → Fr h₀ L s.heap m → (KF w.params).In h₀ → News h₀ L s.heap news → Top topProg LN mean mg mb h₀ → cs.kind = .function → dp + c < recursionLimit → un + 8 * c < cLine →
    (∀ (t : Tok) (h' : Heap) (tk' : Nat), Fr h₀ L h' m → News h₀ L h' news → Q (R t) { s with heap := h', toks := tk' }) →
    wpAny (model PW w) (ktrTop dp un gd cn cs L a ccd cl outer) (call (.ref f) vs) Q E s
set_option maxHeartbeats 0
set_option rowWalk.seconds 0
theorem cost_P {w : World} {news : List (Addr × Obj)} (t u : Tok) : CallOk w 123 [.str (Str.ofString "P") t, .str (Str.ofString "p") u] 1 news (fun t => .int 1 t) := by
  intro mean mg mb dp un gd cn cs a ccd cl outer A₀ base h₀ L m s Q E B F X N T hk hd hu hret
  refine wpAny_call ?_
  k_dflt cell_enter
  k_steps
  all_goals exact hret _ _ _ (by k_asm) (by k_asm)
end Mine
end

section
open PySem PySem.W PyProof.Rows PySem.Spec PySem.Calls
set_option Elab.async false
set_option maxRecDepth 100000
namespace Mine
theorem kwn_C2 : True := by
  k_with_none
  trivial
noncomputable def b1L : List Int := [65024, 65025, 65026, 65027, 65028, 65029, 6150, 65030, 65031, 65032, 65033, 6155, 6156, 6157, 8203, 8204, 8205, 65034, 65035, 65036, 65037, 65038, 65039, 173, 847, 8288, 65279]
theorem b1_set {prog : Program} {w : World} {h : Heap} (X : (KF w.params).In h) : h.SetOf (intKind prog w) 46 (fun k => b1L.contains k) 27 := by
  refine Obj.SetObjOf.setOf (o := ((KF w.params).lookup 46).getD default) ⟨?_, _, _, _, rfl, ?_, ?_, ?_, ?_⟩ (X 46 _ rfl) (by decide)
  · exact ⟨rfl, rfl, rfl⟩
  · intro e he
    have key : ∀ (l : List (Int × Value)), (l.all fun e => match e.2 with | .int i _ => decide (i = e.1) && decide (hashInt i = i) | _ => false) = true → ∀ e ∈ l, (∃ k, (intKind prog w).is k e.2 = true ∧ e.1 = (intKind prog w).hash k) ∧ e.2.scannable = true := by
      intro l hl e he
      have := List.all_eq_true.mp hl e he
      obtain ⟨a, v⟩ := e
      cases v with
      | int i t =>
        simp only [Bool.and_eq_true, decide_eq_true_eq] at this
        obtain ⟨rfl, h2⟩ := this
        exact ⟨⟨i, by simp [intKind, Value.isInt], h2.symm⟩, rfl⟩
      | _ => simp at this
    exact key _ (by decide +kernel) e he
  · intro k
    have key : ∀ (l : List (Int × Value)), (l.all fun e => match e.2 with | .int i _ => decide (i = e.1) | _ => false) = true → ((l.map (·.1)).contains k = true ↔ ∃ e ∈ l, (intKind prog w).is k e.2 = true) := by
      intro l hl
      rw [List.contains_iff_mem, List.mem_map]
      constructor
      · rintro ⟨e, he, rfl⟩
        have := List.all_eq_true.mp hl e he
        obtain ⟨a, v⟩ := e
        cases v with
        | int i t =>
          simp only [decide_eq_true_eq] at this
          subst this
          exact ⟨_, he, by simp [intKind, Value.isInt]⟩
        | _ => simp at this
      · rintro ⟨e, he, hk⟩
        have := List.all_eq_true.mp hl e he
        obtain ⟨a, v⟩ := e
        cases v with
        | int i t =>
          simp only [decide_eq_true_eq] at this
          subst this
          simp [intKind, Value.isInt] at hk
          exact ⟨_, he, by first | exact hk | exact hk.symm⟩
        | _ => simp at this
    have z : ∀ l : List (Int × Value), l.map (·.1) = b1L → (l.all fun e => match e.2 with | .int i _ => decide (i = e.1) | _ => false) = true → (b1L.contains k = true ↔ ∃ e ∈ l, (intKind prog w).is k e.2 = true) := fun l e h => e ▸ key l h
    show b1L.contains k = true ↔ _
    refine z _ ?_ ?_
    · rfl
    · decide +kernel
  · rfl
  · kernel_rfl
theorem in_b1 {w : World} {A : Around} {E : Value → Shared → Prop} {s : Shared} {h₀ : Heap} {L : Addr} {m : Str → Option Value} {k : Int} {t : Tok} {Q : Value → Shared → Prop} (F : Fr h₀ L s.heap m) (X : (KF w.params).In h₀)
    (q : Q (.bool (b1L.contains k)) { s with toks := s.toks + 1 }) : wpAny (model PW w) A (compareOp .In (.int k t) (.ref 46)) Q E s :=
  wpAny_inSet_of (knd := intKind PW w) (k := k) (by simp [intKind, Value.isInt]) rfl (b1_set (X.keeps F.keep)) q
end Mine
end

section
open PySem PySem.W PyProof.Rows PySem.Spec PySem.Calls
set_option Elab.async false
set_option maxRecDepth 100000
namespace Mine
theorem kwn_C3 : True := by
  k_with_none
  trivial
theorem fill3 : RW = RW ∧ KF = KF := by
  k_fill
  exact ⟨rfl, rfl⟩
set_option maxHeartbeats 0
set_option rowWalk.seconds 0
theorem b1_call {w : World} {news : List (Addr × Obj)} (c : Nat) (t : Tok) : CallOk w 56 [.str ⟨#[c]⟩ t] 1 news (fun _ => .bool (b1L.contains (c : Int))) := by
  intro mean mg mb dp un gd cn cs a ccd cl outer A₀ base h₀ L m s Q E B F X N T hk hd hu hret
  refine wpAny_call ?_
  k_dflt cell_enter
  k_steps
  (rename Fr _ _ _ _ => F'); (rename Frag.In _ _ => X')
  refine in_b1 F' X' ?_
  k_steps
  all_goals exact hret 0 _ _ (by k_asm) (by k_asm)
end Mine
end

section
open PySem PySem.W PyProof.Rows PySem.Spec PySem.Calls
set_option Elab.async false
set_option maxRecDepth 100000
namespace Mine
theorem kwn_C4 : True := by
  k_with_none
  trivial
noncomputable def D5 : List (PyData × PyData) := L5.map fun x => (PyData.int x.1, PyData.str x.2)
@[irreducible] noncomputable def E5 : List Ent := match (dgo L5 [] none 358).1 with | some (M, _) => M | none => []
noncomputable def strOf : Value → Option Str
  | .str x _ => some x
  | _ => none
theorem B3_is : B3 = dOb E5 := by kernel_rfl
theorem E5_is : E5.map (fun e => (some e.1, strOf e.2.2)) = L5.map fun x => (some x.1, some x.2) := by kernel_rfl
theorem pairs_ent {prog : Program} {w : World} : ∀ (E : List Ent), Pairs (intKind prog w) (E.map ent) (E.map fun e => (e.1, e.2.2))
  | [] => .nil
  | e :: E => .cons (by simp [intKind, Value.isInt, ent]) rfl (pairs_ent E)
theorem flat_ent : ∀ (E : List Ent) (L : List (Int × Str)), E.map (fun e => (some e.1, strOf e.2.2)) = L.map (fun x => (some x.1, some x.2)) → PyProof.V.FlatPairs PyData.int (E.map fun e => (e.1, e.2.2)) (L.map fun x => (PyData.int x.1, PyData.str x.2))
  | [], [], _ => .nil
  | [], _ :: _, h => by cases h
  | _ :: _, [], h => by cases h
  | (i, t, v) :: E, (j, x) :: L, h => by
    simp only [List.map_cons, List.cons.injEq, Prod.mk.injEq, Option.some.injEq] at h
    obtain ⟨⟨rfl, hv⟩, h⟩ := h
    cases v with
    | str y u =>
      simp only [strOf, Option.some.injEq] at hv
      subst hv
      exact .cons (PyProof.V.Flat.str _ _) (flat_ent E L h)
    | _ => cases hv
theorem b3_tab {prog : Program} {w : World} {h : Heap} (X : (KF w.params).In h) : IntTab prog w h 57 D5 := by
  refine TabAt.ofObj (o := B3) (kvs := E5.map fun e => (e.1, e.2.2)) (by decide) (X 57 _ rfl) ?_ (flat_ent E5 L5 E5_is)
  rw [B3_is]
  have hk : E5.map (·.1) = L5.map (·.1) := by
    have := congrArg (List.map fun x : Option Int × Option Str => x.1.getD 0) E5_is
    simpa [Function.comp_def] using this
  refine ⟨_, _, ⟨rfl, rfl, rfl⟩, rfl, keysOf_ent E5, pairs_ent E5, ?_⟩
  rw [List.map_map]
  show (E5.map (·.1)).Nodup
  rw [hk]
  exact rising_nodup L5_keys
end Mine
end

section
open PySem PySem.W PyProof.Rows PySem.Spec PySem.Calls PyProof.V
set_option Elab.async false
set_option maxRecDepth 100000
namespace Mine
theorem kwn_C5 : True := by
  k_with_none
  trivial
theorem fill5 : RW = RW ∧ KF = KF := by
  k_fill
  exact ⟨rfl, rfl⟩
theorem b3_method {w : World} {A : Around} {E : Value → Shared → Prop} {s : Shared} {h₀ : Heap} {L : Addr} {m : Str → Option Value} {pl : Sem Bool} {Q : Value × List Value → Shared → Prop} (F : Fr h₀ L s.heap m) (X : (KF w.params).In h₀)
    (q : Q (.builtin "dict.get", [.ref 57]) s) : wpAny (model PW w) A (getMethod (.ref 57) (Str.ofString "get") pl) Q E s :=
  getMethod_tab PySem.F.slot_dict_get PySem.F.type_dict_get ((b3_tab (prog := PW) X).keep F.keep) q
theorem b3_get {w : World} {A : Around} {E : Value → Shared → Prop} {s : Shared} {h₀ : Heap} {L : Addr} {m : Str → Option Value} {c : Int} {t : Tok} {v : Str} {Q : Value → Shared → Prop} (F : Fr h₀ L s.heap m) (X : (KF w.params).In h₀)
    (hv : lookup (.int c) D5 = some (.str v)) (q : ∀ u, Q (.str v u) { s with toks := s.toks + 1 }) : wpAny (model PW w) A (call (.builtin "dict.get") [.ref 57, .int c t]) Q E s :=
  call_get1_intTab ((b3_tab (prog := PW) X).keep F.keep) fun x hx => by
    rw [hv] at hx
    obtain ⟨u, rfl⟩ := PyProof.V.Flat.str_inv hx
    exact q u
theorem b3_none {w : World} {A : Around} {E : Value → Shared → Prop} {s : Shared} {h₀ : Heap} {L : Addr} {m : Str → Option Value} {c : Int} {t : Tok} {Q : Value → Shared → Prop} (F : Fr h₀ L s.heap m) (X : (KF w.params).In h₀)
    (hv : lookup (.int c) D5 = none) (q : Q .none { s with toks := s.toks + 1 }) : wpAny (model PW w) A (call (.builtin "dict.get") [.ref 57, .int c t]) Q E s :=
  call_get1_intTab ((b3_tab (prog := PW) X).keep F.keep) fun x hx => by
    rw [hv] at hx
    cases hx {}
    exact q
set_option maxHeartbeats 0
set_option rowWalk.seconds 0
theorem b3_hit {w : World} {news : List (Addr × Obj)} (c : Nat) (v : Str) (hv : lookup (.int (c : Int)) D5 = some (.str v)) (t : Tok) : CallOk w 102 [.str ⟨#[c]⟩ t] 1 news (fun t => .str v t) := by
  intro mean mg mb dp un gd cn cs a ccd cl outer A₀ base h₀ L m s Q E B F X N T hk hd hu hret
  k_with_none
  k_with "getMethod ref" => ((rename Fr _ _ _ _ => F'); (rename Frag.In _ _ => X'); refine b3_method F' X' ?_)
  k_with "call builtin:dict.get" => ((rename Fr _ _ _ _ => F'); (rename Frag.In _ _ => X'); refine b3_get F' X' hv ?_; intro u)
  refine wpAny_call ?_
  k_dflt cell_enter
  k_steps
  all_goals exact hret _ _ _ (by k_asm) (by k_asm)
theorem b3_low_F {w : World} {news : List (Addr × Obj)} (t : Tok) : CallOk w 102 [.str (Str.ofString "F") t] 1 news (fun t => .str (Str.ofString "f") t) := by
  intro mean mg mb dp un gd cn cs a ccd cl outer A₀ base h₀ L m s Q E B F X N T hk hd hu hret
  k_with_none
  k_with "getMethod ref" => ((rename Fr _ _ _ _ => F'); (rename Frag.In _ _ => X'); refine b3_method F' X' ?_)
  k_with "call builtin:dict.get" => ((rename Fr _ _ _ _ => F'); (rename Frag.In _ _ => X'); refine b3_none F' X' (by decide +kernel) ?_)
  refine wpAny_call ?_
  k_dflt cell_enter
  k_steps
  all_goals exact hret _ _ _ (by k_asm) (by k_asm)
theorem b3_low_I {w : World} {news : List (Addr × Obj)} (t : Tok) : CallOk w 102 [.str (Str.ofString "I") t] 1 news (fun t => .str (Str.ofString "i") t) := by
  intro mean mg mb dp un gd cn cs a ccd cl outer A₀ base h₀ L m s Q E B F X N T hk hd hu hret
  k_with_none
  k_with "getMethod ref" => ((rename Fr _ _ _ _ => F'); (rename Frag.In _ _ => X'); refine b3_method F' X' ?_)
  k_with "call builtin:dict.get" => ((rename Fr _ _ _ _ => F'); (rename Frag.In _ _ => X'); refine b3_none F' X' (by decide +kernel) ?_)
  refine wpAny_call ?_
  k_dflt cell_enter
  k_steps
  all_goals exact hret _ _ _ (by k_asm) (by k_asm)
theorem b3_low_f {w : World} {news : List (Addr × Obj)} (t : Tok) : CallOk w 102 [.str (Str.ofString "f") t] 1 news (fun t => .str (Str.ofString "f") t) := by
  intro mean mg mb dp un gd cn cs a ccd cl outer A₀ base h₀ L m s Q E B F X N T hk hd hu hret
  k_with_none
  k_with "getMethod ref" => ((rename Fr _ _ _ _ => F'); (rename Frag.In _ _ => X'); refine b3_method F' X' ?_)
  k_with "call builtin:dict.get" => ((rename Fr _ _ _ _ => F'); (rename Frag.In _ _ => X'); refine b3_none F' X' (by decide +kernel) ?_)
  refine wpAny_call ?_
  k_dflt cell_enter
  k_steps
  all_goals exact hret _ _ _ (by k_asm) (by k_asm)
theorem b3_low_i {w : World} {news : List (Addr × Obj)} (t : Tok) : CallOk w 102 [.str (Str.ofString "i") t] 1 news (fun t => .str (Str.ofString "i") t) := by
  intro mean mg mb dp un gd cn cs a ccd cl outer A₀ base h₀ L m s Q E B F X N T hk hd hu hret
  k_with_none
  k_with "getMethod ref" => ((rename Fr _ _ _ _ => F'); (rename Frag.In _ _ => X'); refine b3_method F' X' ?_)
  k_with "call builtin:dict.get" => ((rename Fr _ _ _ _ => F'); (rename Frag.In _ _ => X'); refine b3_none F' X' (by decide +kernel) ?_)
  refine wpAny_call ?_
  k_dflt cell_enter
  k_steps
  all_goals exact hret _ _ _ (by k_asm) (by k_asm)
end Mine
end

section
open PySem PySem.W PyProof.Rows PySem.Spec PySem.Calls
set_option Elab.async false
set_option maxRecDepth 100000
set_option maxHeartbeats 0
namespace Mine
theorem kwn_R1 : True := by
  k_with_none
  trivial
theorem pk_pf (w : World) (t : Tok) : peek (KF w.params) ⟨PW, w.params⟩ (Builtin.«re.Pattern.search» ⟨[.ref 133, .str (Str.ofString "pf") t], []⟩) = some (.done (.ret .none)) := by kernel_rfl
theorem pk_P (w : World) (t : Tok) : peek (KF w.params) ⟨PW, w.params⟩ (Builtin.«re.Pattern.search» ⟨[.ref 138, .str (Str.ofString "P") t], []⟩) = some (.done (.ret .none)) := by kernel_rfl
end Mine
end

section
open PySem PySem.W PyProof.Rows PySem.Spec PySem.Calls
set_option Elab.async false
set_option maxRecDepth 100000
set_option maxHeartbeats 0
namespace Mine
theorem kwn_R2 : True := by
  k_with_none
  trivial
theorem slot_search : Slot "re.Pattern" "search" "re.Pattern.search" :=
  .of (owner := "re.Pattern") (n := "search") (by rw [typeLookup_type, builtinLookup_eq_fast]; kernel_rfl) (by decide +kernel) (by decide +kernel) (by decide +kernel)
    (by first | exact .inl (by decide +kernel) | exact .inr (by decide +kernel)) (by rw [isSubtype_type]; kernel_rfl)
theorem type_search : typeOf (.builtin "re.Pattern.search") = pure (.type "method_descriptor") := by show builtinType _ = _; rw [builtinType_eq_fast]; kernel_rfl
theorem entry_search : entryFor table "re.Pattern.search" = some Builtin.«re.Pattern.search» := entryFor_of_tree (by kernel_rfl)
theorem args_search (a b : Value) : argsOk "re.Pattern.search" ⟨[a, b], []⟩ := by unfold argsOk; kernel_rfl
theorem plain_pattern : PlainAttrs "re.Pattern" :=
  ⟨⟨"object.__getattribute__", by rw [typeLookup_type, builtinLookup_eq_fast]; kernel_rfl, by decide +kernel⟩, by rw [typeLookup_type, builtinLookup_eq_fast]; kernel_rfl⟩
end Mine
end

section
open PySem PySem.W PyProof.Rows PySem.Spec PySem.Calls
set_option Elab.async false
set_option maxRecDepth 100000
namespace Mine
theorem kwn_R3 : True := by
  k_with_none
  trivial
section
variable {w : World} {A : Around} {E : Value → Shared → Prop} {s : Shared} {h₀ : Heap} {L : Addr} {m : Str → Option Value} {a : Addr} {o : Obj}
theorem pat_is (ho : s.heap.get? a = some o) (hc : o.cls = .type "re.Pattern") : s.TypeIs (.ref a) "re.Pattern" := by
  exact ⟨o, ho, hc⟩
theorem search_method {pl : Sem Bool} {Q : Value × List Value → Shared → Prop} (ho : s.heap.get? a = some o) (hc : o.cls = .type "re.Pattern") (hd : o.dict = none) (q : Q (.builtin "re.Pattern.search", [.ref a]) s) :
    wpAny (model PW w) A (getMethod (.ref a) (Str.ofString "search") pl) Q E s :=
  getMethod_builtin (pat_is ho hc) plain_pattern slot_search type_search (fun b e => by cases e; exact ⟨o, ho, hd⟩) q
theorem search_call {x : Str} {t : Tok} {Q : Value → Shared → Prop} (X : (KF w.params).In s.heap) (ho : s.heap.get? a = some o) (hc : o.cls = .type "re.Pattern")
    (hp : peek (KF w.params) ⟨PW, w.params⟩ (Builtin.«re.Pattern.search» ⟨[.ref a, .str x t], []⟩) = some (.done (.ret .none))) (q : Q .none s) :
    wpAny (model PW w) A (call (.builtin "re.Pattern.search") [.ref a, .str x t]) Q E s :=
  wpAny_call (codeAny_call_builtin slot_search.plain entry_search (slot_search.check _ _ _ _ _ _ _ _ (pat_is ho hc) (args_search _ _) (Looks.of_peek (M := model PW w) X hp _ _ _ s (fun _ _ e => e) q)))
end
end Mine
end

section
open PySem PySem.W PyProof.Rows PySem.Spec PySem.Calls
set_option Elab.async false
set_option maxRecDepth 100000
namespace Mine
theorem kwn_S1 : True := by
  k_with_none
  trivial
theorem fill6 : RW = RW ∧ KF = KF := by
  k_fill
  exact ⟨rfl, rfl⟩
set_option maxHeartbeats 0
set_option rowWalk.seconds 0
theorem cost_pp {w : World} {news : List (Addr × Obj)} (t u : Tok) : CallOk w 123 [.str (Str.ofString "p") t, .str (Str.ofString "p") u] 1 news (fun t => .int 0 t) := by
  intro mean mg mb dp un gd cn cs a ccd cl outer A₀ base h₀ L m s Q E B F X N T hk hd hu hret
  refine wpAny_call ?_
  k_dflt cell_enter
  k_steps
  all_goals exact hret _ _ _ (by k_asm) (by k_asm)
theorem cost_Qq {w : World} {news : List (Addr × Obj)} (t u : Tok) : CallOk w 123 [.str (Str.ofString "Q") t, .str (Str.ofString "q") u] 1 news (fun t => .int 1 t) := by
  intro mean mg mb dp un gd cn cs a ccd cl outer A₀ base h₀ L m s Q E B F X N T hk hd hu hret
  refine wpAny_call ?_
  k_dflt cell_enter
  k_steps
  all_goals exact hret _ _ _ (by k_asm) (by k_asm)
theorem cost_qq {w : World} {news : List (Addr × Obj)} (t u : Tok) : CallOk w 123 [.str (Str.ofString "q") t, .str (Str.ofString "q") u] 1 news (fun t => .int 0 t) := by
  intro mean mg mb dp un gd cn cs a ccd cl outer A₀ base h₀ L m s Q E B F X N T hk hd hu hret
  refine wpAny_call ?_
  k_dflt cell_enter
  k_steps
  all_goals exact hret _ _ _ (by k_asm) (by k_asm)
theorem cost_Rr {w : World} {news : List (Addr × Obj)} (t u : Tok) : CallOk w 123 [.str (Str.ofString "R") t, .str (Str.ofString "r") u] 1 news (fun t => .int 1 t) := by
  intro mean mg mb dp un gd cn cs a ccd cl outer A₀ base h₀ L m s Q E B F X N T hk hd hu hret
  refine wpAny_call ?_
  k_dflt cell_enter
  k_steps
  all_goals exact hret _ _ _ (by k_asm) (by k_asm)
theorem cost_rr {w : World} {news : List (Addr × Obj)} (t u : Tok) : CallOk w 123 [.str (Str.ofString "r") t, .str (Str.ofString "r") u] 1 news (fun t => .int 0 t) := by
  intro mean mg mb dp un gd cn cs a ccd cl outer A₀ base h₀ L m s Q E B F X N T hk hd hu hret
  refine wpAny_call ?_
  k_dflt cell_enter
  k_steps
  all_goals exact hret _ _ _ (by k_asm) (by k_asm)
end Mine
end

section
open PySem PySem.W PyProof.Rows PySem.Spec PySem.Calls
set_option Elab.async false
set_option maxRecDepth 100000
namespace Mine
theorem kwn_S2 : True := by
  k_with_none
  trivial
theorem fill7 : RW = RW ∧ KF = KF := by
  k_fill
  exact ⟨rfl, rfl⟩

section
variable {w : World} {A : Around} {E : Value → Shared → Prop} {s : Shared} {h₀ : Heap} {L : Addr} {m : Str → Option Value}
theorem srm_133 {pl : Sem Bool} {Q : Value × List Value → Shared → Prop} (F : Fr h₀ L s.heap m) (X : (KF w.params).In h₀) (q : Q (.builtin "re.Pattern.search", [.ref 133]) s) :
    wpAny (model PW w) A (getMethod (.ref 133) (Str.ofString "search") pl) Q E s :=
  search_method ((X.keeps F.keep) 133 _ rfl) rfl rfl q
theorem src_133 {x : Str} {t : Tok} {Q : Value → Shared → Prop} (F : Fr h₀ L s.heap m) (X : (KF w.params).In h₀)
    (hp : peek (KF w.params) ⟨PW, w.params⟩ (Builtin.«re.Pattern.search» ⟨[.ref 133, .str x t], []⟩) = some (.done (.ret .none))) (q : Q .none s) :
    wpAny (model PW w) A (call (.builtin "re.Pattern.search") [.ref 133, .str x t]) Q E s :=
  search_call (X.keeps F.keep) ((X.keeps F.keep) 133 _ rfl) rfl hp q
theorem srm_138 {pl : Sem Bool} {Q : Value × List Value → Shared → Prop} (F : Fr h₀ L s.heap m) (X : (KF w.params).In h₀) (q : Q (.builtin "re.Pattern.search", [.ref 138]) s) :
    wpAny (model PW w) A (getMethod (.ref 138) (Str.ofString "search") pl) Q E s :=
  search_method ((X.keeps F.keep) 138 _ rfl) rfl rfl q
theorem src_138 {x : Str} {t : Tok} {Q : Value → Shared → Prop} (F : Fr h₀ L s.heap m) (X : (KF w.params).In h₀)
    (hp : peek (KF w.params) ⟨PW, w.params⟩ (Builtin.«re.Pattern.search» ⟨[.ref 138, .str x t], []⟩) = some (.done (.ret .none))) (q : Q .none s) :
    wpAny (model PW w) A (call (.builtin "re.Pattern.search") [.ref 138, .str x t]) Q E s :=
  search_call (X.keeps F.keep) ((X.keeps F.keep) 138 _ rfl) rfl hp q
end
/-- as CallOk, with keyword arguments -/
noncomputable abbrev CallOkW (w : World) (f : Addr) (vs : List Value) (kws : List (Str × Value)) (c : Nat) (news : List (Addr × Obj)) (R : Tok → Value) : Prop :=
  ∀ (mean : ExcName → Option Value) (mg mb : Str → Option Value) (dp un : Nat) (gd : Option (List Code)) (cn : Str) (cs : Scope) (a : Addr) (ccd : Value) (cl : List (Str × Addr)) (outer : List Env) (A₀ : Around) (base h₀ : Heap) (L : Addr)
    (m : Str → Option Value) (s : Shared) (Q E : Value → Shared → Prop),
    Below A₀ base outer h₀ → Fr h₀ L s.heap m → (KF w.params).In h₀ → News h₀ L s.heap news → Top topProg LN mean mg mb h₀ → cs.kind = .function → dp + c < recursionLimit → un + 8 * c < cLine →
    (∀ (t : Tok) (h' : Heap) (tk' : Nat), Fr h₀ L h' m → News h₀ L h' news → Q (R t) { s with heap := h', toks := tk' }) →
    wpAny (model PW w) (ktrTop dp un gd cn cs L a ccd cl outer) (call (.ref f) vs kws) Q E s
set_option maxHeartbeats 0
set_option rowWalk.seconds 0
theorem conv_n {w : World} {news : List (Addr × Obj)} (self : Value) (x : Str) (t : Tok) (hp : peek (KF w.params) ⟨PW, w.params⟩ (Builtin.«re.Pattern.search» ⟨[.ref 133, .str x t], []⟩) = some (.done (.ret .none))) :
    CallOkW w 168 [self, .str x t] [(Str.ofString "name", .bool true)] 1 news (fun _ => .str x t) := by
  intro mean mg mb dp un gd cn cs a ccd cl outer A₀ base h₀ L m s Q E B F X N T hk hd hu hret
  k_with_none
  k_with "getMethod ref" => ((rename Fr _ _ _ _ => F'); (rename Frag.In _ _ => X'); refine srm_133 F' X' ?_)
  k_with "call builtin:re.Pattern.search" => ((rename Fr _ _ _ _ => F'); (rename Frag.In _ _ => X'); refine src_133 F' X' hp ?_)
  refine wpAny_call ?_
  k_dflt cell_enter
  k_steps
  all_goals exact hret 0 _ _ (by k_asm) (by k_asm)
theorem conv_v {w : World} {news : List (Addr × Obj)} (self : Value) (x : Str) (t : Tok) (hp : peek (KF w.params) ⟨PW, w.params⟩ (Builtin.«re.Pattern.search» ⟨[.ref 138, .str x t], []⟩) = some (.done (.ret .none))) :
    CallOkW w 168 [self, .str x t] [(Str.ofString "name", .bool false)] 1 news (fun _ => .str x t) := by
  intro mean mg mb dp un gd cn cs a ccd cl outer A₀ base h₀ L m s Q E B F X N T hk hd hu hret
  k_with_none
  k_with "getMethod ref" => ((rename Fr _ _ _ _ => F'); (rename Frag.In _ _ => X'); refine srm_138 F' X' ?_)
  k_with "call builtin:re.Pattern.search" => ((rename Fr _ _ _ _ => F'); (rename Frag.In _ _ => X'); refine src_138 F' X' hp ?_)
  refine wpAny_call ?_
  k_dflt cell_enter
  k_steps
  all_goals exact hret 0 _ _ (by k_asm) (by k_asm)
end Mine
end

section
open PySem PySem.W PyProof.Rows PySem.Spec PySem.Calls
set_option Elab.async false
set_option maxRecDepth 100000
set_option maxHeartbeats 0
namespace Mine
theorem kwn_S3 : True := by
  k_with_none
  trivial
theorem pk_nm (w : World) (t : Tok) : ∀ x ∈ (["pf","pi","qf","qi","rf","ri","p.","q.","r.","Pf","PF","PI","QF","QI","RF","RI","P.","Q.","R."] : List String).map Str.ofString, peek (KF w.params) ⟨PW, w.params⟩ (Builtin.«re.Pattern.search» ⟨[.ref 133, .str x t], []⟩) = some (.done (.ret .none)) := by
  intro x hx
  simp only [List.map, List.mem_cons, List.not_mem_nil, or_false] at hx
  rcases hx with rfl | rfl | rfl | rfl | rfl | rfl | rfl | rfl | rfl | rfl | rfl | rfl | rfl | rfl | rfl | rfl | rfl | rfl | rfl <;> kernel_rfl
end Mine
end

section
open PySem PySem.W PyProof.Rows PySem.Spec PySem.Calls
set_option Elab.async false
set_option maxRecDepth 100000
set_option maxHeartbeats 0
namespace Mine
theorem kwn_S4 : True := by
  k_with_none
  trivial
theorem pk_vl (w : World) (t : Tok) : ∀ x ∈ (["P","Q","R","p","q","r"] : List String).map Str.ofString, peek (KF w.params) ⟨PW, w.params⟩ (Builtin.«re.Pattern.search» ⟨[.ref 138, .str x t], []⟩) = some (.done (.ret .none)) := by
  intro x hx
  simp only [List.map, List.mem_cons, List.not_mem_nil, or_false] at hx
  rcases hx with rfl | rfl | rfl | rfl | rfl | rfl <;> kernel_rfl
end Mine
end

section
open PySem PySem.W PyProof.Rows PySem.Spec PySem.Calls
namespace Mine
theorem kwn_GU : True := by
  k_with_none
  trivial
section
variable {w : World} {f : Addr} {vs : List Value} {kws : List (Str × Value)} {c : Nat} {news : List (Addr × Obj)} {R : Tok → Value}
  {mean : ExcName → Option Value} {mg mb : Str → Option Value} {dp un : Nat} {gd : Option (List Code)} {cn : Str} {cs : Scope} {a : Addr} {ccd : Value} {cl : List (Str × Addr)} {outer : List Env} {A₀ : Around} {base h₀ : Heap} {L : Addr}
  {m : Str → Option Value} {s : Shared} {Q E : Value → Shared → Prop}
theorem use_C (C : CallOk w f vs c news R) (B : Below A₀ base outer h₀) (F : Fr h₀ L s.heap m) (X : (KF w.params).In h₀) (N : News h₀ L s.heap news) (T : Top topProg LN mean mg mb h₀) (hk : cs.kind = .function) (hd : dp + c < recursionLimit) (hu : un + 8 * c < cLine)
    (ret : ∀ (t : Tok) (h' : Heap) (tk' : Nat), Fr h₀ L h' m → News h₀ L h' news → Q (R t) { s with heap := h', toks := tk' }) :
    wpAny (model PW w) (ktrTop dp un gd cn cs L a ccd cl outer) (call (.ref f) vs) Q E s := C _ _ _ _ _ _ _ _ _ _ _ _ _ _ _ _ _ _ _ _ B F X N T hk hd hu ret
theorem use_W (C : CallOkW w f vs kws c news R) (B : Below A₀ base outer h₀) (F : Fr h₀ L s.heap m) (X : (KF w.params).In h₀) (N : News h₀ L s.heap news) (T : Top topProg LN mean mg mb h₀) (hk : cs.kind = .function) (hd : dp + c < recursionLimit) (hu : un + 8 * c < cLine)
    (ret : ∀ (t : Tok) (h' : Heap) (tk' : Nat), Fr h₀ L h' m → News h₀ L h' news → Q (R t) { s with heap := h', toks := tk' }) :
    wpAny (model PW w) (ktrTop dp un gd cn cs L a ccd cl outer) (call (.ref f) vs kws) Q E s := C _ _ _ _ _ _ _ _ _ _ _ _ _ _ _ _ _ _ _ _ B F X N T hk hd hu ret
end
theorem pk_n {w : World} {t : Tok} {x : String} (h : x ∈ (["pf","pi","qf","qi","rf","ri","p.","q.","r.","Pf","PF","PI","QF","QI","RF","RI","P.","Q.","R."] : List String) := by decide) :
    peek (KF w.params) ⟨PW, w.params⟩ (Builtin.«re.Pattern.search» ⟨[.ref 133, .str (Str.ofString x) t], []⟩) = some (.done (.ret .none)) := pk_nm w t _ (List.mem_map_of_mem h)
end Mine
end

section
open PySem PySem.W PyProof.Rows PySem.Spec PySem.Calls
namespace Mine
theorem kwn_FR : True := by
  k_with_none
  trivial
/-- the base heap of a call holds all that is not on the ledger given to it -/
inductive Rem (p : Addr × Obj) : List (Addr × Obj) → List (Addr × Obj) → Prop
  | head {r} : Rem p (p :: r) r
  | tail {q r r'} : Rem p r r' → Rem p (q :: r) (q :: r')
theorem Rem.mem {p : Addr × Obj} {all rest : List (Addr × Obj)} (h : Rem p all rest) : p ∈ all := by
  induction h with
  | head => exact .head _
  | tail _ ih => exact .tail _ ih
theorem Rem.sub {p : Addr × Obj} {all rest : List (Addr × Obj)} (h : Rem p all rest) : ∀ q ∈ rest, q ∈ all := by
  induction h with
  | head => exact fun q hq => .tail _ hq
  | tail _ ih =>
    intro q hq
    rcases List.mem_cons.mp hq with rfl | hq
    · exact .head _
    · exact .tail _ (ih q hq)
noncomputable def HoldsBut (h g : Heap) (news : List (Addr × Obj)) : Prop := ∀ b o, h.get? b = some o → b ∉ news.map (·.1) → g.get? b = some o
noncomputable def RestR (h₀ : Heap) (L : Addr) (rest : List (Addr × Obj)) (R : Result → Shared → Prop) (r : Result) (s' : Shared) : Prop := match r with
  | .ok (.ret v) => News h₀ L s'.heap rest → R (.ok (.ret v)) s'
  | r => R r s'
theorem rest_back {h g h' h₀ : Heap} {L L' : Addr} {m' : Str → Option Value} {news rest : List (Addr × Obj)} (HB : HoldsBut h g news) (F' : Fr g L' h' m') (N : News h₀ L h rest) (off : ∀ p ∈ rest, p.1 ∉ news.map (·.1)) : News h₀ L h' rest :=
  fun p hp => ⟨F'.keep _ _ (HB _ _ (N p hp).1 (off p hp)), (N p hp).2⟩
section
variable {rest : List (Addr × Obj)} {prog : Program} {w : World} {A₀ A : Around} {s : Shared} {base h₀ : Heap} {outer : List Env} {L : Addr} {m : Str → Option Value} {env : Env} {news : List (Addr × Obj)}
  {R : Result → Shared → Prop} {name qual : Str} {params : Arguments} {body : List Stmt} {scope : Scope} {cl : List (Str × Addr)} {dV kV doc pm cdv ct : Value} {an : Option Addr} {fo : Obj} {f : Addr} {args : Args} {binds : List (Str × Value)}
theorem callF_plain (B : Below A₀ base outer h₀) (F : Fr h₀ L s.heap m) (N : News h₀ L s.heap news) (NR : News h₀ L s.heap rest) (off : ∀ p ∈ rest, p.1 ∉ news.map (·.1)) (hlim : h₀.NoLimit) (hA : A.frames = some (env :: outer)) (hf : env.frame = some L) (hke : env.scope.kind = .function)
    (ho : s.heap.get? f = some fo) (hd : fo.data = .func (fnX name qual params body scope cl dV kV doc pm an cdv ct)) (hcd : s.heap.CodeRec cdv qual) (hroom : A.depth < recursionLimit)
    (hbind : BindsTo s (fnX name qual params body scope cl dV kV doc pm an cdv ct) args binds) (hloc : ∀ y ∈ binds, scope.names.lookup y.1 = some .local)
    (h : ∀ g L' h₁, HoldsBut s.heap g news → Fr h₀ L g m → Fr g L' h₁ (fun y => binds.reverse.lookup y) → News g L' h₁ news → Below A base (env :: outer) g → h₀.StaysIn g → (∀ p ∈ news, p.1 < L') → (∀ p ∈ rest, p.1 < L') →
      wpAny (model prog w) (A.deeper (envX qual scope L' f cdv cl)) (execs body (envX qual scope L' f cdv cl))
        (fun fl s' => LeaveK h₀ L m g (RestR h₀ L rest R) (match fl with | .ret v => v | _ => .none) s')
        (fun e s' => wpAny (model prog w) (A.deeper (envX qual scope L' f cdv cl)) (leaving (envX qual scope L' f cdv cl) e) (fun _ s'' => R (.error e) s'') (fun e' s'' => R (.error e') s'') s')
        { s with heap := h₁, toks := s.toks + binds.length })
    (hcell : ∀ x ∈ scope.names, x.2 ≠ .cell) (hco : scope.isCoroutine = false := by rfl) (hgen : scope.isGenerator = false := by rfl) (hk : scope.kind = .function := by rfl) : codeAny (model prog w) A (.call (.ref f) args) R s := by
  obtain ⟨FG, BG, st, lv⟩ := groundX (R := RestR h₀ L rest R) B F N hA hf hke
  refine codeAny_call_def (fd := fnX name qual params body scope cl dV kV doc pm an cdv ct) (body := body) (binds := binds) hroom ho hd (hlim.keeps F.keep) hcd rfl hbind hcell hloc (fun h₁ hns hk₁ => ?_) hco hgen hk
  exact wpAny_mono (h _ s.heap.objs.size h₁ (fun b o e q => hideAll_get _ e q) FG ⟨hns, fun b o e => hk₁ b o (of_hideAll _ e), Nat.le_of_eq (hideAll_size _ _)⟩
    (fun p hp => ⟨hk₁ _ _ (N p hp).1, Nat.ne_of_lt (Heap.lt_size (N p hp).1), hideAll_none _ (List.mem_map_of_mem hp)⟩) BG st (fun p hp => Heap.lt_size (N p hp).1) (fun p hp => Heap.lt_size (NR p hp).1)) (fun fl s' hl => lv _ _ hl (let ⟨_, _, _, F', _, _⟩ := hl; rest_back (fun b o e q => hideAll_get _ e q) F' NR off)) fun _ _ y => y
theorem callF_cells (B : Below A₀ base outer h₀) (F : Fr h₀ L s.heap m) (N : News h₀ L s.heap news) (NR : News h₀ L s.heap rest) (off : ∀ p ∈ rest, p.1 ∉ news.map (·.1)) (hlim : h₀.NoLimit) (hA : A.frames = some (env :: outer)) (hf : env.frame = some L) (hke : env.scope.kind = .function)
    (ho : s.heap.get? f = some fo) (hd : fo.data = .func (fnX name qual params body scope [] dV kV doc pm an cdv ct)) (hcd : s.heap.CodeRec cdv qual) (hroom : A.depth < recursionLimit)
    (hbind : BindsTo s (fnX name qual params body scope [] dV kV doc pm an cdv ct) args binds)
    (hkind : ∀ n, ∀ x ∈ binds, scope.names.lookup x.1 = some .local ∨ (scope.names.lookup x.1 = some .cell ∧ ((cellsFrom n scope.names []).lookup x.1).isSome = true))
    (hnd : ((cellsFrom 0 scope.names []).map (·.1)).Nodup)
    (h : ∀ g L' h₁ tk cells, HoldsBut s.heap g news → Fr h₀ L g m → Fr g L' h₁ (bindL (envOfC qual scope L' f cdv).kindOf binds fun _ => none) → News g L' h₁ (cells ++ news) →
      CellsAre (bindC (envOfC qual scope L' f cdv).kindOf binds fun _ => none) (cellsFrom (L' + 1) scope.names []) cells → Below A base (env :: outer) g → h₀.StaysIn g → (∀ p ∈ news, p.1 < L') → (∀ p ∈ rest, p.1 < L') →
      wpAny (model prog w) (A.deeper (envOfC qual scope L' f cdv)) (execs body (envOfC qual scope L' f cdv))
        (fun fl s' => LeaveK h₀ L m g (RestR h₀ L rest R) (match fl with | .ret v => v | _ => .none) s')
        (fun e s' => wpAny (model prog w) (A.deeper (envOfC qual scope L' f cdv)) (leaving (envOfC qual scope L' f cdv) e) (fun _ s'' => R (.error e) s'') (fun e' s'' => R (.error e') s'') s')
        { s with heap := h₁, toks := tk })
    (hco : scope.isCoroutine = false := by rfl) (hgen : scope.isGenerator = false := by rfl) (hk : scope.kind = .function := by rfl) : codeAny (model prog w) A (.call (.ref f) args) R s := by
  obtain ⟨FG, BG, st, lv⟩ := groundX (R := RestR h₀ L rest R) B F N hA hf hke
  refine codeAny_call_function hroom ho hd hco hgen rfl hcd (hbind _ _ _ _ ?_)
  refine wpAny_newFunctionEnv_cells hk (hkind _) fun env' he s' x => ?_
  subst he
  refine ⟨(hlim.keeps F.keep).keeps x.toInCall.keep, codeAny_func ?_⟩
  obtain ⟨h₁, tk, rfl, _⟩ := x.done
  have hk₁ := x.toInCall.keep
  obtain ⟨cells, NC, Y⟩ := Cl.news (h₀ := s.heap) (Nat.le_refl _) fun n c hm => ⟨x.cell n c (lookup_of_mem_nodup (cellsFrom_names scope.names 0 (s.heap.objs.size + 1) [] [] rfl ▸ hnd) hm), x.above n c hm⟩
  refine wpAny_mono (h _ s.heap.objs.size h₁ tk cells (fun b o e q => hideAll_get _ e q) FG ⟨x.toInCall.ns, fun b o e => hk₁ b o (of_hideAll _ e), Nat.le_of_eq (hideAll_size _ _)⟩ (fun p hp => ?_) Y BG st (fun p hp => Heap.lt_size (N p hp).1) (fun p hp => Heap.lt_size (NR p hp).1)) (fun fl s' hl => lv _ _ hl (let ⟨_, _, _, F', _, _⟩ := hl; rest_back (fun b o e q => hideAll_get _ e q) F' NR off)) fun _ _ y => y
  rcases List.mem_append.mp hp with hp | hp
  · refine ⟨(NC p hp).1, (NC p hp).2.1, ?_⟩
    cases q : (hideAll s.heap (news.map (·.1))).get? p.1 with
    | none => rfl
    | some o => have := of_hideAll _ q; rw [(NC p hp).2.2] at this; cases this
  · exact ⟨hk₁ _ _ (N p hp).1, Nat.ne_of_lt (Heap.lt_size (N p hp).1), hideAll_none _ (List.mem_map_of_mem hp)⟩
end
section
variable {rest : List (Addr × Obj)} {prog : Program} {w : World} {A₀ A : Around} {s : Shared} {base h₀ : Heap} {outer : List Env} {L : Addr} {m : Str → Option Value} {env : Env} {news : List (Addr × Obj)} {K : Frag} {p : Program} {loose : List Str} {mean : ExcName → Option Value} {mg mb : Str → Option Value}
  {R : Result → Shared → Prop} {name qual : Str} {params : Arguments} {body : List Stmt} {scope : Scope} {dV kV doc pm cdv ct oc : Value} {an od : Option Addr} {osl : Array (Option Value)} {f : Addr} {args : Args} {binds : List (Str × Value)}
theorem code_defCF (B : Below A₀ base outer h₀) (F : Fr h₀ L s.heap m) (X₀ : K.In h₀) (N : News h₀ L s.heap news) (NR : News h₀ L s.heap rest) (off : ∀ p ∈ rest, p.1 ∉ news.map (·.1)) (T : Top p loose mean mg mb h₀) (hA : A.frames = some (env :: outer)) (hf : env.frame = some L) (hke : env.scope.kind = .function)
    (ho : K.lookup f = some ⟨oc, od, .func (W.fnOf name qual params body scope dV kV doc pm an cdv ct), osl⟩) (hcd : codeIn K cdv qual = true) (hroom : A.depth < recursionLimit)
    (hbind : BindsTo s (W.fnOf name qual params body scope dV kV doc pm an cdv ct) args binds) (hkind : (binds.all fun y => scope.names.lookup y.1 == some .local || scope.names.lookup y.1 == some .cell) = true)
    (hnd : ((cellsFrom 0 scope.names []).map (·.1)).Nodup)
    (h : ∀ g L' h₁ tk cells, HoldsBut s.heap g news → Fr h₀ L g m → Fr g L' h₁ (bindL (envOfC qual scope L' f cdv).kindOf binds fun _ => none) → News g L' h₁ (cells ++ news) →
      CellsAre (bindC (envOfC qual scope L' f cdv).kindOf binds fun _ => none) (cellsFrom (L' + 1) scope.names []) cells → Below A base (env :: outer) g → K.In g → Top p loose mean mg mb g → (∀ p ∈ news, p.1 < L') → (∀ p ∈ rest, p.1 < L') →
      wpAny (model prog w) (A.deeper (envOfC qual scope L' f cdv)) (execs body (envOfC qual scope L' f cdv))
        (fun fl s' => LeaveK h₀ L m g (RestR h₀ L rest R) (match fl with | .ret v => v | _ => .none) s')
        (fun e s' => wpAny (model prog w) (A.deeper (envOfC qual scope L' f cdv)) (leaving (envOfC qual scope L' f cdv) e) (fun _ s'' => R (.error e) s'') (fun e' s'' => R (.error e') s'') s')
        { s with heap := h₁, toks := tk })
    (hco : scope.isCoroutine = false) (hgen : scope.isGenerator = false) (hk : scope.kind = .function) : codeAny (model prog w) A (.call (.ref f) args) R s :=
  callF_cells B F N NR off T.nolimit hA hf hke ((X₀.keeps F.keep) _ _ ho) rfl (codeRec_of (X₀.keeps F.keep) hcd) hroom hbind (kindsX hkind) hnd (fun g L' h₁ tk cells HB FG F' N' Y B' st l lr => h g L' h₁ tk cells HB FG F' N' Y B' (X₀.keeps st) (T.keeps st) l lr) hco hgen hk
end
end Mine
end

section
open PySem PySem.W PyProof.Rows PySem.Spec PySem.Calls
set_option maxHeartbeats 1000000
namespace Mine
theorem kwn_FP : True := by
  k_with_none
  trivial
section
variable {rest : List (Addr × Obj)} {prog : Program} {w : World} {A₀ A : Around} {s : Shared} {base h₀ : Heap} {outer : List Env} {L : Addr} {m : Str → Option Value} {env : Env} {news : List (Addr × Obj)} {K : Frag} {p : Program} {loose : List Str} {mean : ExcName → Option Value} {mg mb : Str → Option Value}
  {R : Result → Shared → Prop} {name qual : Str} {params : Arguments} {body : List Stmt} {scope : Scope} {dV kV doc pm cdv ct oc : Value} {an od : Option Addr} {osl : Array (Option Value)} {f : Addr} {args : Args} {binds : List (Str × Value)}
theorem code_defPF (B : Below A₀ base outer h₀) (F : Fr h₀ L s.heap m) (X₀ : K.In h₀) (N : News h₀ L s.heap news) (NR : News h₀ L s.heap rest) (off : ∀ p ∈ rest, p.1 ∉ news.map (·.1)) (T : Top p loose mean mg mb h₀) (hA : A.frames = some (env :: outer)) (hf : env.frame = some L) (hke : env.scope.kind = .function)
    (ho : K.lookup f = some ⟨oc, od, .func (W.fnOf name qual params body scope dV kV doc pm an cdv ct), osl⟩) (hcd : codeIn K cdv qual = true) (hroom : A.depth < recursionLimit)
    (hbind : BindsTo s (W.fnOf name qual params body scope dV kV doc pm an cdv ct) args binds) (hloc : ∀ y ∈ binds, scope.names.lookup y.1 = some .local)
    (h : ∀ g L' h₁, HoldsBut s.heap g news → Fr h₀ L g m → Fr g L' h₁ (fun y => binds.reverse.lookup y) → News g L' h₁ news → Below A base (env :: outer) g → K.In g → Top p loose mean mg mb g → (∀ p ∈ news, p.1 < L') → (∀ p ∈ rest, p.1 < L') →
      wpAny (model prog w) (A.deeper (envOf qual scope L' f cdv)) (execs body (envOf qual scope L' f cdv))
        (fun fl s' => LeaveK h₀ L m g (RestR h₀ L rest R) (match fl with | .ret v => v | _ => .none) s')
        (fun e s' => wpAny (model prog w) (A.deeper (envOf qual scope L' f cdv)) (leaving (envOf qual scope L' f cdv) e) (fun _ s'' => R (.error e) s'') (fun e' s'' => R (.error e') s'') s')
        { s with heap := h₁, toks := s.toks + binds.length })
    (hco : scope.isCoroutine = false) (hgen : scope.isGenerator = false) (hk : scope.kind = .function)
    (hcell : ∀ x ∈ scope.names, x.2 ≠ .cell) : codeAny (model prog w) A (.call (.ref f) args) R s :=
  callF_plain (cl := []) B F N NR off T.nolimit hA hf hke ((X₀.keeps F.keep) _ _ ho) rfl (codeRec_of (X₀.keeps F.keep) hcd) hroom hbind hloc (fun g L' h₁ HB FG F' N' B' st l lr => h g L' h₁ HB FG F' N' B' (X₀.keeps st) (T.keeps st) l lr) hcell hco hgen hk
end
end Mine
end

section
open PySem PySem.W PyProof.Rows PySem.Spec PySem.Calls
set_option Elab.async false
set_option maxRecDepth 100000
namespace Mine
theorem kwn_AT : True := by
  k_with_none
  trivial
noncomputable def AllImp (d : Nat) (G : Prop) : List (Addr × Obj) → Prop
  | [] => G
  | p :: r => @LT.lt Nat _ p.1 d → AllImp d G r
theorem allLt_el {d : Nat} {G : Prop} : ∀ {l : List (Addr × Obj)}, AllLt d l → AllImp d G l → G
  | [], _, k => k
  | _ :: _, h, k => allLt_el h.2 (k h.1)
theorem up1 {a l : Nat} (h : a < l) : ¬ a = l + 1 := by omega
theorem up2 {a l : Nat} (h : a < l) : ¬ a = l + 1 + 1 := by omega
theorem up3 {a l : Nat} (h : a < l) : ¬ a = l + 1 + 1 + 1 := by omega
theorem up1' {a l : Nat} (h : a < l) : ¬ l + 1 = a := by omega
theorem up2' {a l : Nat} (h : a < l) : ¬ l + 1 + 1 = a := by omega
theorem up3' {a l : Nat} (h : a < l) : ¬ l + 1 + 1 + 1 = a := by omega
theorem nsym {a b : Nat} (h : ¬ a = b) : ¬ b = a := fun e => h e.symm
theorem dn1 {a l : Nat} (h : l + 1 + 1 + 1 < a) : ¬ a = l + 1 := by omega
theorem dn2 {a l : Nat} (h : l + 1 + 1 + 1 < a) : ¬ a = l + 1 + 1 := by omega
theorem dn3 {a l : Nat} (h : l + 1 + 1 + 1 < a) : ¬ a = l + 1 + 1 + 1 := by omega
theorem hi104 {a : Nat} (h : 111 < a) : ¬ a = 104 := by omega
theorem hi111 {a : Nat} (h : 111 < a) : ¬ a = 111 := by omega
theorem roomA {dp n k lim : Nat} (h : dp + n < lim) (e : Nat.ble (1 + k) n = true) : dp + 1 + k < lim := Nat.lt_of_le_of_lt (by rw [Nat.add_assoc]; exact Nat.add_le_add_left (Nat.le_of_ble_eq_true e) _) h
theorem roomB {dp n k lim : Nat} (h : dp + n < lim) (e : Nat.ble k n = true) : dp + k < lim := Nat.lt_of_le_of_lt (Nat.add_le_add_left (Nat.le_of_ble_eq_true e) _) h
theorem roomC {dp n k lim : Nat} (h : dp + n < lim) (e : Nat.ble (3 + k) n = true) : dp + 3 + k < lim := Nat.lt_of_le_of_lt (by rw [Nat.add_assoc]; exact Nat.add_le_add_left (Nat.le_of_ble_eq_true e) _) h
theorem fold_ae {M : Model} {A : Around} {env : Env} {b : List Stmt} {Q : Flow → Shared → Prop} {E : Value → Shared → Prop} {s : Shared} (h : let e' := env; let A' := A.deeper e'; wpAny M A' (execs b e') Q E s) : wpAny M (A.deeper env) (execs b env) Q E s := h
end Mine
end

open PySem PySem.W PyProof.Rows PySem.Spec PySem.Calls Mine
local macro_rules | `(tactic| k_lt $h:ident) => `(tactic| (replace $h := allLt_of $h; refine allLt_el $h ?_; dsimp only [AllImp]; clear $h; intros))
local macro_rules | `(tactic| k_ne) => `(tactic| (refine neN ?_; (try dsimp only); first | with_reducible assumption | exact nsym (by with_reducible assumption) | exact Nat.ne_of_lt (by with_reducible assumption) | exact Nat.ne_of_gt (by with_reducible assumption) | exact up1 (by with_reducible assumption) | exact up2 (by with_reducible assumption) | exact up3 (by with_reducible assumption) | exact up1' (by with_reducible assumption) | exact up2' (by with_reducible assumption) | exact up3' (by with_reducible assumption) | exact dn1 (by with_reducible assumption) | exact dn2 (by with_reducible assumption) | exact dn3 (by with_reducible assumption) | exact hi104 (by assumption) | exact hi111 (by assumption) | exact Nat.ne_of_lt (by assumption) | exact Nat.ne_of_gt (by assumption) | omega))
local macro_rules | `(tactic| ktr_room) => `(tactic| first | exact roomA (by with_reducible assumption) rfl | exact roomB (by with_reducible assumption) rfl | exact roomA (by assumption) rfl | exact roomB (by assumption) rfl)
local macro_rules | `(tactic| ktr_units) => `(tactic| first | exact roomC (by with_reducible assumption) rfl | exact roomB (by with_reducible assumption) rfl | exact roomC (by assumption) rfl | exact roomB (by assumption) rfl)
local macro_rules | `(tactic| omega) => `(tactic| first | with_reducible assumption | with_reducible rfl | decide | omega (config := {}))
local macro_rules | `(tactic| walk_at $s:str) => `(tactic| k_extra $(Lean.Syntax.mkStrLit ("!" ++ s.getString)))

section
local macro_rules | `(tactic| walk_at "execs cons") => `(tactic| (k_fold; walk_at "execs cons"))

section
open PySem PySem.W PyProof.Rows PySem.Spec PySem.Calls
set_option Elab.async false
set_option maxRecDepth 100000
namespace Mine
theorem kwn_DP : True := by
  k_with_none
  trivial
set_option maxHeartbeats 0
set_option rowWalk.seconds 0
theorem bits1 {a : Int} (h0 : 1 ≤ a) (h1 : a < 4) : ((((Builtin.Int.intBits a : Nat) : Int) + 2 - 1).fdiv 2) = 1 := by
  obtain ⟨n, rfl⟩ : ∃ n : Nat, a = n := ⟨a.toNat, by omega⟩
  have g0 : 0 ≤ Nat.log2 n := (Nat.le_log2 (by omega)).mpr (by omega)
  have g1 : Nat.log2 n < 2 := (Nat.log2_lt (by omega)).mpr (by omega)
  have e : Builtin.Int.intBits (n : Int) = Nat.log2 n + 1 := by
    unfold Builtin.Int.intBits
    rw [if_neg (by simp; omega)]; rfl
  rw [e]
  have : Nat.log2 n = 0 ∨ Nat.log2 n = 1 := by omega
  rcases this with h | h <;> rw [h] <;> rfl
theorem bits2 {a : Int} (h0 : 4 ≤ a) (h1 : a < 16) : ((((Builtin.Int.intBits a : Nat) : Int) + 2 - 1).fdiv 2) = 2 := by
  obtain ⟨n, rfl⟩ : ∃ n : Nat, a = n := ⟨a.toNat, by omega⟩
  have g0 : 2 ≤ Nat.log2 n := (Nat.le_log2 (by omega)).mpr (by omega)
  have g1 : Nat.log2 n < 4 := (Nat.log2_lt (by omega)).mpr (by omega)
  have e : Builtin.Int.intBits (n : Int) = Nat.log2 n + 1 := by
    unfold Builtin.Int.intBits
    rw [if_neg (by simp; omega)]; rfl
  rw [e]
  have : Nat.log2 n = 2 ∨ Nat.log2 n = 3 := by omega
  rcases this with h | h <;> rw [h] <;> rfl
theorem bits3 {a : Int} (h0 : 16 ≤ a) (h1 : a < 64) : ((((Builtin.Int.intBits a : Nat) : Int) + 2 - 1).fdiv 2) = 3 := by
  obtain ⟨n, rfl⟩ : ∃ n : Nat, a = n := ⟨a.toNat, by omega⟩
  have g0 : 4 ≤ Nat.log2 n := (Nat.le_log2 (by omega)).mpr (by omega)
  have g1 : Nat.log2 n < 6 := (Nat.log2_lt (by omega)).mpr (by omega)
  have e : Builtin.Int.intBits (n : Int) = Nat.log2 n + 1 := by
    unfold Builtin.Int.intBits
    rw [if_neg (by simp; omega)]; rfl
  rw [e]
  have : Nat.log2 n = 4 ∨ Nat.log2 n = 5 := by omega
  rcases this with h | h <;> rw [h] <;> rfl
theorem bits4 {a : Int} (h0 : 64 ≤ a) (h1 : a < 256) : ((((Builtin.Int.intBits a : Nat) : Int) + 2 - 1).fdiv 2) = 4 := by
  obtain ⟨n, rfl⟩ : ∃ n : Nat, a = n := ⟨a.toNat, by omega⟩
  have g0 : 6 ≤ Nat.log2 n := (Nat.le_log2 (by omega)).mpr (by omega)
  have g1 : Nat.log2 n < 8 := (Nat.log2_lt (by omega)).mpr (by omega)
  have e : Builtin.Int.intBits (n : Int) = Nat.log2 n + 1 := by
    unfold Builtin.Int.intBits
    rw [if_neg (by simp; omega)]; rfl
  rw [e]
  have : Nat.log2 n = 6 ∨ Nat.log2 n = 7 := by omega
  rcases this with h | h <;> rw [h] <;> rfl
theorem xorLow : ∀ n : Nat, n < 256 → Builtin.bitXor (n : Int) ((n : Int) / 4 * 4) = (n : Int) % 4 ∧ Builtin.bitXor (n : Int) ((n : Int) / 16 * 16) = (n : Int) % 16 := by decide +kernel
section
variable {w : World} {A : Around} {E : Value → Shared → Prop} {s : Shared} {x k : Int} {t u : Tok} {Q : Value → Shared → Prop}
theorem shr2 (hk : k = 2) (h : Q (.int (x / 4) s.toks) { s with toks := s.toks + 1 }) : wpAny (model PW w) A (binaryOp .RShift (.int x t) (.int k u)) Q E s := by
  subst hk
  refine rshift_int (by decide) ?_
  rwa [show x.fdiv (2 ^ (Int.toNat 2)) = x / 4 from Int.fdiv_eq_ediv_of_nonneg x (by decide)]
theorem shr4 (hk : k = 4) (h : Q (.int (x / 16) s.toks) { s with toks := s.toks + 1 }) : wpAny (model PW w) A (binaryOp .RShift (.int x t) (.int k u)) Q E s := by
  subst hk
  refine rshift_int (by decide) ?_
  rwa [show x.fdiv (2 ^ (Int.toNat 4)) = x / 16 from Int.fdiv_eq_ediv_of_nonneg x (by decide)]
theorem shl2 (hk : k = 2) (h0 : 0 ≤ x) (h1 : x < 256) (h : Q (.int (x * 4) s.toks) { s with toks := s.toks + 1 }) : wpAny (model PW w) A (binaryOp .LShift (.int x t) (.int k u)) Q E s := by
  subst hk
  exact lshift_int_small (by decide) (by decide) (by omega) h
theorem shl4 (hk : k = 4) (h0 : 0 ≤ x) (h1 : x < 256) (h : Q (.int (x * 16) s.toks) { s with toks := s.toks + 1 }) : wpAny (model PW w) A (binaryOp .LShift (.int x t) (.int k u)) Q E s := by
  subst hk
  exact lshift_int_small (by decide) (by decide) (by omega) h
theorem xor2 (h0 : 0 ≤ x) (h1 : x < 256) (h : Q (.int (x % 4) s.toks) { s with toks := s.toks + 1 }) : wpAny (model PW w) A (binaryOp .BitXor (.int x t) (.int (x / 4 * 4) u)) Q E s := by
  obtain ⟨n, rfl⟩ : ∃ n : Nat, x = n := ⟨x.toNat, by omega⟩
  refine xor_int ?_
  rw [(xorLow n (by omega)).1]; exact h
theorem xor4 (h0 : 0 ≤ x) (h1 : x < 256) (h : Q (.int (x % 16) s.toks) { s with toks := s.toks + 1 }) : wpAny (model PW w) A (binaryOp .BitXor (.int x t) (.int (x / 16 * 16) u)) Q E s := by
  obtain ⟨n, rfl⟩ : ∃ n : Nat, x = n := ⟨x.toNat, by omega⟩
  refine xor_int ?_
  rw [(xorLow n (by omega)).2]; exact h
end
noncomputable def tabOf (ln cl : Int) (c' : Addr) : Array Value := #[rawInt ln, rawInt cl, .ref c']
noncomputable def CodeObj (o : Obj) (q : Str) : Prop := ∃ vs t, o.data = .fields vs ∧ vs[1]? = some (.str q t)
noncomputable abbrev qD : Str := Str.ofString "_digits2int.<locals>.inner"
noncomputable abbrev qI : Str := Str.ofString "_int2digits.<locals>.inner"
theorem rest_ne {h g h' h₀ : Heap} {L L' D : Addr} {o : Obj} {news rest nx : List (Addr × Obj)} (HB : HoldsBut h g news) (NR : News h₀ L h rest) (off : ∀ p ∈ rest, p.1 ∉ news.map (·.1)) (N : News g L' h' nx) (hm : (D, o) ∈ nx) : ∀ p ∈ rest, p.1 ≠ D := fun p hp e => by
  have := HB _ _ (NR p hp).1 (off p hp)
  rw [e, (N _ hm).2.2] at this; cases this
theorem coderec_hold {h g : Heap} {c P : Addr} {o : Obj} {q : Str} (x : h.CodeRec (.ref c) q) (HB : HoldsBut h g [(P, o)]) (hc : c ≠ P) : g.CodeRec (.ref c) q := by
  obtain ⟨c0, oc, vs, t, e, ho, r⟩ := x
  cases e
  exact ⟨_, _, _, _, rfl, HB _ _ ho (by simpa using hc), r⟩
theorem cr_step {g h : Heap} {L c : Addr} {m : Str → Option Value} {q : Str} (F : Fr g L h m) (x : g.CodeRec (.ref c) q) : h.CodeRec (.ref c) q := x.keeps F.keep
theorem coderec_hold2 {h g : Heap} {c : Addr} {news : List (Addr × Obj)} {q : Str} (x : h.CodeRec (.ref c) q) (HB : HoldsBut h g news) (hc : c ∉ news.map (·.1)) : g.CodeRec (.ref c) q := by
  obtain ⟨c0, oc, vs, t, e, ho, r⟩ := x
  cases e
  exact ⟨_, _, _, _, rfl, HB _ _ ho hc, r⟩
end Mine
end

section
open PySem PySem.W PyProof.Rows PySem.Spec PySem.Calls
set_option Elab.async false
set_option maxRecDepth 100000
namespace Mine
theorem kwn_DI : True := by
  k_with_none
  trivial
theorem fillDI : RW = RW ∧ KF = KF := by
  k_fill
  exact ⟨rfl, rfl⟩
set_option maxHeartbeats 0
set_option rowWalk.seconds 0
noncomputable def fdT : Stmt → Option FnAst
  | PySem.Stmt.FunctionDef _ a b _ _ _ sc _ _ _ => some ⟨a, b, sc⟩
  | _ => none
noncomputable abbrev iF : FnAst := (⟨⟨_, _, _⟩, rfl⟩ : {x : FnAst // (T8.body[1]?).bind fdT = some x}).val
noncomputable abbrev iObj (c1 c2 c3 c' : Addr) (dc pm ct : Value) : Obj := fnMade (Str.ofString "inner") qI iF.params iF.body iF.scope [(Str.ofString "n", c1), (Str.ofString "inner", c3), (Str.ofString "a_digits", c2)] dc pm c' ct
structure InR (f D c1 c2 c3 c' : Addr) (R : List (Addr × Obj)) : Prop where
  hf : ∃ dc pm ct, (f, iObj c1 c2 c3 c' dc pm ct) ∈ R
  h1 : ∃ o t, (c1, o) ∈ R ∧ o.data = .cell (some (.int 2 t))
  h2 : ∃ o, (c2, o) ∈ R ∧ o.data = .cell (some (.ref D))
  h3 : ∃ o, (c3, o) ∈ R ∧ o.data = .cell (some (.ref f))
  off : ∀ p ∈ R, p.1 ≠ D
noncomputable def CRat (h₀ : Heap) (R : List (Addr × Obj)) (c' : Addr) (q : Str) : Prop := h₀.CodeRec (.ref c') q ∨ ∃ oc, (c', oc) ∈ R ∧ CodeObj oc q
theorem CRat.use {h₀ h : Heap} {L c' : Addr} {m : Str → Option Value} {R nx : List (Addr × Obj)} {q : Str} (c : CRat h₀ R c' q) (F : Fr h₀ L h m) (N : News h₀ L h nx) (sub : ∀ p ∈ R, p ∈ nx) : h.CodeRec (.ref c') q := by
  rcases c with c | ⟨oc, hm, vs, t, e1, e2⟩
  · exact cr_step F c
  · exact codeRec_news N (sub _ hm) e1 e2
theorem CRat.step {h₀ g : Heap} {L c' : Addr} {m : Str → Option Value} {R : List (Addr × Obj)} {q : Str} (c : CRat h₀ R c' q) (F : Fr h₀ L g m) : CRat g R c' q := c.imp (fun c => cr_step F c) id
theorem ints_set {x : Int} {t : Tok} : ∀ {vs : List Value} {xs : List Int} {i : Nat}, IntsAre vs xs → IntsAre (vs.set i (.int x t)) (xs.set i x)
  | _, _, _, .nil => .nil
  | _, _, 0, .cons _ _ r => .cons _ _ r
  | _, _, _ + 1, .cons a b r => .cons a b (ints_set r)
theorem eq_t {prog : Program} {w : World} {A : Around} {E : Value → Shared → Prop} {s : Shared} {a b : Int} {t u : Tok} {Q : Value → Shared → Prop} (e : a = b) (h : Q (.bool true) s) : wpAny (model prog w) A (compareOp .Eq (.int a t) (.int b u)) Q E s := by
  refine eq_int ?_
  rw [show (a == b) = true from by simpa using e]; exact h
theorem eq_f {prog : Program} {w : World} {A : Around} {E : Value → Shared → Prop} {s : Shared} {a b : Int} {t u : Tok} {Q : Value → Shared → Prop} (e : a ≠ b) (h : Q (.bool false) s) : wpAny (model prog w) A (compareOp .Eq (.int a t) (.int b u)) Q E s := by
  refine eq_int ?_
  rw [show (a == b) = false from by simpa using e]; exact h
theorem shr1 {w : World} {A : Around} {E : Value → Shared → Prop} {s : Shared} {x y : Int} {t u : Tok} {Q : Value → Shared → Prop} (hk : 2 * y ≤ x) (hk1 : x < 2 * y + 2) (h : Q (.int y s.toks) { s with toks := s.toks + 1 }) : wpAny (model PW w) A (binaryOp .RShift (.int x t) (.int 1 u)) Q E s := by
  refine rshift_int (by decide) ?_
  rwa [show x.fdiv (2 ^ (Int.toNat 1)) = y from by
    rw [show (2 : Int) ^ (Int.toNat 1) = 2 from rfl, Int.fdiv_eq_ediv_of_nonneg x (by decide)]; omega]
theorem iset {prog : Program} {w : World} {A : Around} {E : Value → Shared → Prop} {s : Shared} {h₀ : Heap} {L D : Addr} {m : Str → Option Value} {vs : List Value} {n i : Nat} {v : Value} {ia : Int} {t : Tok} {R : List (Addr × Obj)} {Q : Unit → Shared → Prop} (F : Fr h₀ L s.heap m) (N : News h₀ L s.heap ((D, W.listOf vs.toArray n) :: R)) (off : ∀ p ∈ R, p.1 ≠ D) (hi : ia = (i : Int)) (hn : i < vs.length) (hs : vs.length ≤ 4)
    (q : ∀ h', Fr h₀ L h' m → News h₀ L h' ((D, W.listOf (vs.set i v).toArray n) :: R) → Q () { s with heap := h' }) : wpAny (model prog w) A (setItem (.ref D) (.int ia t) v) Q E s := by
  subst hi
  have z := N (D, W.listOf vs.toArray n) (.head _)
  refine ki_setAt z.1 (Int.natCast_nonneg _) (by omega) (by simpa using hn) (q _ (F.change (Heap.SameBut.update ..) z.2.1 z.2.2) ?_)
  exact ki_turn (pre := []) (post := R) (its := vs.toArray) (n := n) (·.setIfInBounds (Int.toNat (i : Int)) v) N (fun _ h => by cases h) off (by simp) (by simp)
end Mine
end

section
open PySem PySem.W PyProof.Rows PySem.Spec PySem.Calls
set_option Elab.async false
set_option maxRecDepth 100000
namespace Mine
theorem kwn_DJ : True := by
  k_with_none
  trivial
theorem fillDJ : RW = RW ∧ KF = KF := by
  k_fill
  exact ⟨rfl, rfl⟩
set_option maxHeartbeats 0
set_option rowWalk.seconds 0
theorem in1 {w : World} {A A₀ : Around} {s : Shared} {Q E : Value → Shared → Prop} {f D c1 c2 c3 c' : Addr} {h₀ base : Heap} {L : Addr} {m mg mb : Str → Option Value} {mean : ExcName → Option Value} {env : Env} {outer : List Env} {news R : List (Addr × Obj)} {vs : List Value} {n i : Nat} {xs : List Int} {x ia ib : Int} {t u v : Tok}
    (B : Below A₀ base outer h₀) (F : Fr h₀ L s.heap m) (X : (KF w.params).In h₀) (N : News h₀ L s.heap news) (T : Top topProg LN mean mg mb h₀) (hA : A.frames = some (env :: outer)) (hf : env.frame = some L) (hke : env.scope.kind = .function) (hd : A.depth + 1 < recursionLimit) (hcr : CRat h₀ R c' qI) (hR : Rem (D, W.listOf vs.toArray n) news R) (hI : InR f D c1 c2 c3 c' R) (hv : IntsAre vs xs) (hs : xs.length ≤ 4)
    (h0 : 0 ≤ x) (h1 : x < 256) (ea : ia = (i : Int)) (eb : ib = ia + 1) (hn : i + 1 ≤ xs.length)
    (q : ∀ vs' h' tk', IntsAre vs' (xs.set i x) → Fr h₀ L h' m → News h₀ L h' ((D, W.listOf vs'.toArray n) :: R) → Q .none { s with heap := h', toks := tk' }) :
    wpAny (model PW w) A (call (.ref f) [.int x t, .int ia u, .int ib v]) Q E s := by
  have N0 : News h₀ L s.heap ((D, W.listOf vs.toArray n) :: R) := cb_drop N fun p hp => by
    rcases List.mem_cons.mp hp with rfl | hp
    · exact hR.mem
    · exact hR.sub _ hp
  clear N hR
  have N := N0
  clear N0
  obtain ⟨⟨dc, pm, ct, gf⟩, ⟨o1, t1, g1, e1⟩, ⟨o2, g2, e2⟩, ⟨o3, g3, e3⟩, off⟩ := hI
  k_with_none
  k_with "!compareOp Eq int int" => (k_here; first | refine eq_t (by omega) ?_ | refine eq_f (by omega) ?_)
  k_with "eval Name" => ((rename News _ _ _ _ => lN'); (k_dflt (first | refine nameX_F lN' rfl (.tail _ g2) e2 ?_ | refine nameX_F lN' rfl (.tail _ g1) e1 ?_ | refine nameX_F lN' rfl (.tail _ g3) e3 ?_)))
  k_with "!setItem ref int" => ((rename Fr _ _ _ _ => lF'); (rename News _ _ _ _ => lN'); (k_dflt (refine iset lF' lN' off ea (by have := hv.length; omega) (by have := hv.length; omega) ?_)); intro h7 F7 N7; clear lF' lN')
  (refine wpAny_call ?_; refine' code_nest ?k1 ?k2 ?k3 ?k4 ?k5 ?kA ?kF ?kK ?k6 ?k7 ?k8 ?k9 ?kB ?_ ?c2 ?c3 ?c4 ?c5; (case kA => exact hA); (case kF => exact hf); (case kK => exact hke); (case k1 => exact B); (case k2 => exact F); (case k3 => exact X); (case k4 => exact N); (case k5 => exact T); (case k6 => exact .tail _ gf); (case k7 => exact hcr.use F N fun _ h => .tail _ h); (case k8 => exact Nat.lt_of_le_of_lt (Nat.le_add_right _ _) hd); (case k9 => exact BindsTo.of_eq rfl); (case c5 => decide); (case kB => exact locs rfl); (case c2 => exact rfl); (case c3 => exact rfl); (case c4 => exact rfl); k_whole; intro g' L' h' FG' F' N' B' X' T'; (have CR := hcr.step FG'); (try dsimp only); (try k_lift B'); (try k_fold); refine fold_ae ?_; intro eK AK)
  k_steps
  all_goals exact q _ _ _ (ints_set hv) (by k_asm) (by k_asm)
theorem in2 {w : World} {A A₀ : Around} {s : Shared} {Q E : Value → Shared → Prop} {f D c1 c2 c3 c' : Addr} {h₀ base : Heap} {L : Addr} {m mg mb : Str → Option Value} {mean : ExcName → Option Value} {env : Env} {outer : List Env} {news R : List (Addr × Obj)} {vs : List Value} {n i : Nat} {xs : List Int} {x ia ib : Int} {t u v : Tok}
    (B : Below A₀ base outer h₀) (F : Fr h₀ L s.heap m) (X : (KF w.params).In h₀) (N : News h₀ L s.heap news) (T : Top topProg LN mean mg mb h₀) (hA : A.frames = some (env :: outer)) (hf : env.frame = some L) (hke : env.scope.kind = .function) (hd : A.depth + 2 < recursionLimit) (hcr : CRat h₀ R c' qI) (hR : Rem (D, W.listOf vs.toArray n) news R) (hI : InR f D c1 c2 c3 c' R) (hv : IntsAre vs xs) (hs : xs.length ≤ 4)
    (h0 : 0 ≤ x) (h1 : x < 256) (ea : ia = (i : Int)) (eb : ib = ia + 2) (hn : i + 2 ≤ xs.length)
    (q : ∀ vs' h' tk', IntsAre vs' ((xs.set i (x % 4)).set (i + 1) (x / 4)) → Fr h₀ L h' m → News h₀ L h' ((D, W.listOf vs'.toArray n) :: R) → Q .none { s with heap := h', toks := tk' }) :
    wpAny (model PW w) A (call (.ref f) [.int x t, .int ia u, .int ib v]) Q E s := by
  have N0 : News h₀ L s.heap ((D, W.listOf vs.toArray n) :: R) := cb_drop N fun p hp => by
    rcases List.mem_cons.mp hp with rfl | hp
    · exact hR.mem
    · exact hR.sub _ hp
  clear N hR
  have N := N0
  clear N0
  obtain ⟨⟨dc, pm, ct, gf⟩, ⟨o1, t1, g1, e1⟩, ⟨o2, g2, e2⟩, ⟨o3, g3, e3⟩, off⟩ := hI
  k_with_none
  k_with "!compareOp Eq int int" => (k_here; first | refine eq_t (by omega) ?_ | refine eq_f (by omega) ?_)
  k_with "!binaryOp LShift int int" => (k_here; first | refine shl2 (by omega) (by omega) (by omega) ?_ | refine shl4 (by omega) (by omega) (by omega) ?_)
  k_with "!binaryOp BitXor int int" => (k_here; first | refine xor2 (by omega) (by omega) ?_ | refine xor4 (by omega) (by omega) ?_)
  k_with "eval Name" => ((rename News _ _ _ _ => lN'); (k_dflt (first | refine nameX_F lN' rfl (.tail _ g2) e2 ?_ | refine nameX_F lN' rfl (.tail _ g1) e1 ?_ | refine nameX_F lN' rfl (.tail _ g3) e3 ?_)))
  k_with "!binaryOp RShift int int" => (first | refine shr1 (y := ia + 1) (by omega) (by omega) ?_ | refine shr2 (by omega) ?_ | refine shr4 (by omega) ?_)
  k_with "callWith ref" => ((rename News _ _ _ _ => lN'); (k_dflt (refine callWith_F (FnAt.of lN' (.tail _ gf)) ?_)))
  k_with "FnAt" => ((rename News _ _ _ _ => lN'); (k_dflt (exact FnAt.of lN' (.tail _ gf))))
  k_with "call ref" => ((rename Below _ _ _ _ => lB'); (rename Fr _ _ _ _ => lF'); (rename News _ _ _ _ => lN'); (rename Frag.In _ _ => lX'); (rename Top _ _ _ _ _ _ => lT'); (rename CRat _ _ _ _ => lC'); (rename IntsAre _ _ => lI'); (k_dflt (first | (refine' in1 (i := i) lB' lF' lX' lN' lT' ?hA ?hf ?hke ?hd lC' .head ⟨⟨_, _, _, gf⟩, ⟨_, _, g1, e1⟩, ⟨_, g2, e2⟩, ⟨_, g3, e3⟩, off⟩ lI' ?hs ?h0 ?h1 ?ea ?eb ?hn ?_; (case hA => exact Around.frames_deeper hA); (case hf => exact rfl); (case hke => exact rfl); (case hd => (show A.depth + 1 + _ < recursionLimit; omega)); (case hs => ((try simp only [List.length_set]); exact hs)); (case h0 => omega); (case h1 => omega); (case ea => omega); (case eb => omega); (case hn => ((try simp only [List.length_set]); omega))) | (refine' in1 (i := i + 1) lB' lF' lX' lN' lT' ?hA ?hf ?hke ?hd lC' .head ⟨⟨_, _, _, gf⟩, ⟨_, _, g1, e1⟩, ⟨_, g2, e2⟩, ⟨_, g3, e3⟩, off⟩ lI' ?hs ?h0 ?h1 ?ea ?eb ?hn ?_; (case hA => exact Around.frames_deeper hA); (case hf => exact rfl); (case hke => exact rfl); (case hd => (show A.depth + 1 + _ < recursionLimit; omega)); (case hs => ((try simp only [List.length_set]); exact hs)); (case h0 => omega); (case h1 => omega); (case ea => omega); (case eb => omega); (case hn => ((try simp only [List.length_set]); omega))))); intro vs' h' tk' lI2 lF2 lN2; clear lF' lN' lI')
  (refine wpAny_call ?_; refine' code_nest ?k1 ?k2 ?k3 ?k4 ?k5 ?kA ?kF ?kK ?k6 ?k7 ?k8 ?k9 ?kB ?_ ?c2 ?c3 ?c4 ?c5; (case kA => exact hA); (case kF => exact hf); (case kK => exact hke); (case k1 => exact B); (case k2 => exact F); (case k3 => exact X); (case k4 => exact N); (case k5 => exact T); (case k6 => exact .tail _ gf); (case k7 => exact hcr.use F N fun _ h => .tail _ h); (case k8 => exact Nat.lt_of_le_of_lt (Nat.le_add_right _ _) hd); (case k9 => exact BindsTo.of_eq rfl); (case c5 => decide); (case kB => exact locs rfl); (case c2 => exact rfl); (case c3 => exact rfl); (case c4 => exact rfl); k_whole; intro g' L' h' FG' F' N' B' X' T'; (have CR := hcr.step FG'); (try dsimp only); (try k_lift B'); (try k_fold); refine fold_ae ?_; intro eK AK)
  k_steps
  all_goals exact q _ _ _ (by k_asm) (by k_asm) (by k_asm)
theorem in3 {w : World} {A A₀ : Around} {s : Shared} {Q E : Value → Shared → Prop} {f D c1 c2 c3 c' : Addr} {h₀ base : Heap} {L : Addr} {m mg mb : Str → Option Value} {mean : ExcName → Option Value} {env : Env} {outer : List Env} {news R : List (Addr × Obj)} {vs : List Value} {n i : Nat} {xs : List Int} {x ia ib : Int} {t u v : Tok}
    (B : Below A₀ base outer h₀) (F : Fr h₀ L s.heap m) (X : (KF w.params).In h₀) (N : News h₀ L s.heap news) (T : Top topProg LN mean mg mb h₀) (hA : A.frames = some (env :: outer)) (hf : env.frame = some L) (hke : env.scope.kind = .function) (hd : A.depth + 3 < recursionLimit) (hcr : CRat h₀ R c' qI) (hR : Rem (D, W.listOf vs.toArray n) news R) (hI : InR f D c1 c2 c3 c' R) (hv : IntsAre vs xs) (hs : xs.length ≤ 4)
    (h0 : 0 ≤ x) (h1 : x < 256) (ea : ia = (i : Int)) (eb : ib = ia + 3) (hn : i + 3 ≤ xs.length)
    (q : ∀ vs' h' tk', IntsAre vs' (((xs.set i (x % 4)).set (i + 1) (x / 4 % 4)).set (i + 2) (x / 4 / 4)) → Fr h₀ L h' m → News h₀ L h' ((D, W.listOf vs'.toArray n) :: R) → Q .none { s with heap := h', toks := tk' }) :
    wpAny (model PW w) A (call (.ref f) [.int x t, .int ia u, .int ib v]) Q E s := by
  have N0 : News h₀ L s.heap ((D, W.listOf vs.toArray n) :: R) := cb_drop N fun p hp => by
    rcases List.mem_cons.mp hp with rfl | hp
    · exact hR.mem
    · exact hR.sub _ hp
  clear N hR
  have N := N0
  clear N0
  obtain ⟨⟨dc, pm, ct, gf⟩, ⟨o1, t1, g1, e1⟩, ⟨o2, g2, e2⟩, ⟨o3, g3, e3⟩, off⟩ := hI
  k_with_none
  k_with "!compareOp Eq int int" => (k_here; first | refine eq_t (by omega) ?_ | refine eq_f (by omega) ?_)
  k_with "!binaryOp LShift int int" => (k_here; first | refine shl2 (by omega) (by omega) (by omega) ?_ | refine shl4 (by omega) (by omega) (by omega) ?_)
  k_with "!binaryOp BitXor int int" => (k_here; first | refine xor2 (by omega) (by omega) ?_ | refine xor4 (by omega) (by omega) ?_)
  k_with "eval Name" => ((rename News _ _ _ _ => lN'); (k_dflt (first | refine nameX_F lN' rfl (.tail _ g2) e2 ?_ | refine nameX_F lN' rfl (.tail _ g1) e1 ?_ | refine nameX_F lN' rfl (.tail _ g3) e3 ?_)))
  k_with "!binaryOp RShift int int" => (first | refine shr1 (y := ia + 1) (by omega) (by omega) ?_ | refine shr2 (by omega) ?_ | refine shr4 (by omega) ?_)
  k_with "callWith ref" => ((rename News _ _ _ _ => lN'); (k_dflt (refine callWith_F (FnAt.of lN' (.tail _ gf)) ?_)))
  k_with "FnAt" => ((rename News _ _ _ _ => lN'); (k_dflt (exact FnAt.of lN' (.tail _ gf))))
  k_with "call ref" => ((rename Below _ _ _ _ => lB'); (rename Fr _ _ _ _ => lF'); (rename News _ _ _ _ => lN'); (rename Frag.In _ _ => lX'); (rename Top _ _ _ _ _ _ => lT'); (rename CRat _ _ _ _ => lC'); (rename IntsAre _ _ => lI'); (k_dflt (first | (refine' in1 (i := i) lB' lF' lX' lN' lT' ?hA ?hf ?hke ?hd lC' .head ⟨⟨_, _, _, gf⟩, ⟨_, _, g1, e1⟩, ⟨_, g2, e2⟩, ⟨_, g3, e3⟩, off⟩ lI' ?hs ?h0 ?h1 ?ea ?eb ?hn ?_; (case hA => exact Around.frames_deeper hA); (case hf => exact rfl); (case hke => exact rfl); (case hd => (show A.depth + 1 + _ < recursionLimit; omega)); (case hs => ((try simp only [List.length_set]); exact hs)); (case h0 => omega); (case h1 => omega); (case ea => omega); (case eb => omega); (case hn => ((try simp only [List.length_set]); omega))) | (refine' in2 (i := i + 1) lB' lF' lX' lN' lT' ?hA ?hf ?hke ?hd lC' .head ⟨⟨_, _, _, gf⟩, ⟨_, _, g1, e1⟩, ⟨_, g2, e2⟩, ⟨_, g3, e3⟩, off⟩ lI' ?hs ?h0 ?h1 ?ea ?eb ?hn ?_; (case hA => exact Around.frames_deeper hA); (case hf => exact rfl); (case hke => exact rfl); (case hd => (show A.depth + 1 + _ < recursionLimit; omega)); (case hs => ((try simp only [List.length_set]); exact hs)); (case h0 => omega); (case h1 => omega); (case ea => omega); (case eb => omega); (case hn => ((try simp only [List.length_set]); omega))))); intro vs' h' tk' lI2 lF2 lN2; clear lF' lN' lI')
  (refine wpAny_call ?_; refine' code_nest ?k1 ?k2 ?k3 ?k4 ?k5 ?kA ?kF ?kK ?k6 ?k7 ?k8 ?k9 ?kB ?_ ?c2 ?c3 ?c4 ?c5; (case kA => exact hA); (case kF => exact hf); (case kK => exact hke); (case k1 => exact B); (case k2 => exact F); (case k3 => exact X); (case k4 => exact N); (case k5 => exact T); (case k6 => exact .tail _ gf); (case k7 => exact hcr.use F N fun _ h => .tail _ h); (case k8 => exact Nat.lt_of_le_of_lt (Nat.le_add_right _ _) hd); (case k9 => exact BindsTo.of_eq rfl); (case c5 => decide); (case kB => exact locs rfl); (case c2 => exact rfl); (case c3 => exact rfl); (case c4 => exact rfl); k_whole; intro g' L' h' FG' F' N' B' X' T'; (have CR := hcr.step FG'); (try dsimp only); (try k_lift B'); (try k_fold); refine fold_ae ?_; intro eK AK)
  k_steps
  all_goals exact q _ _ _ (by k_asm) (by k_asm) (by k_asm)
theorem in4 {w : World} {A A₀ : Around} {s : Shared} {Q E : Value → Shared → Prop} {f D c1 c2 c3 c' : Addr} {h₀ base : Heap} {L : Addr} {m mg mb : Str → Option Value} {mean : ExcName → Option Value} {env : Env} {outer : List Env} {news R : List (Addr × Obj)} {vs : List Value} {n i : Nat} {xs : List Int} {x ia ib : Int} {t u v : Tok}
    (B : Below A₀ base outer h₀) (F : Fr h₀ L s.heap m) (X : (KF w.params).In h₀) (N : News h₀ L s.heap news) (T : Top topProg LN mean mg mb h₀) (hA : A.frames = some (env :: outer)) (hf : env.frame = some L) (hke : env.scope.kind = .function) (hd : A.depth + 3 < recursionLimit) (hcr : CRat h₀ R c' qI) (hR : Rem (D, W.listOf vs.toArray n) news R) (hI : InR f D c1 c2 c3 c' R) (hv : IntsAre vs xs) (hs : xs.length ≤ 4)
    (h0 : 0 ≤ x) (h1 : x < 256) (ea : ia = (i : Int)) (eb : ib = ia + 4) (hn : i + 4 ≤ xs.length)
    (q : ∀ vs' h' tk', IntsAre vs' ((((xs.set i (x % 16 % 4)).set (i + 1) (x % 16 / 4)).set (i + 2) (x / 16 % 4)).set (i + 3) (x / 16 / 4)) → Fr h₀ L h' m → News h₀ L h' ((D, W.listOf vs'.toArray n) :: R) → Q .none { s with heap := h', toks := tk' }) :
    wpAny (model PW w) A (call (.ref f) [.int x t, .int ia u, .int ib v]) Q E s := by
  have N0 : News h₀ L s.heap ((D, W.listOf vs.toArray n) :: R) := cb_drop N fun p hp => by
    rcases List.mem_cons.mp hp with rfl | hp
    · exact hR.mem
    · exact hR.sub _ hp
  clear N hR
  have N := N0
  clear N0
  obtain ⟨⟨dc, pm, ct, gf⟩, ⟨o1, t1, g1, e1⟩, ⟨o2, g2, e2⟩, ⟨o3, g3, e3⟩, off⟩ := hI
  k_with_none
  k_with "!compareOp Eq int int" => (k_here; first | refine eq_t (by omega) ?_ | refine eq_f (by omega) ?_)
  k_with "!binaryOp LShift int int" => (k_here; first | refine shl2 (by omega) (by omega) (by omega) ?_ | refine shl4 (by omega) (by omega) (by omega) ?_)
  k_with "!binaryOp BitXor int int" => (k_here; first | refine xor2 (by omega) (by omega) ?_ | refine xor4 (by omega) (by omega) ?_)
  k_with "eval Name" => ((rename News _ _ _ _ => lN'); (k_dflt (first | refine nameX_F lN' rfl (.tail _ g2) e2 ?_ | refine nameX_F lN' rfl (.tail _ g1) e1 ?_ | refine nameX_F lN' rfl (.tail _ g3) e3 ?_)))
  k_with "!binaryOp RShift int int" => (first | refine shr1 (y := ia + 2) (by omega) (by omega) ?_ | refine shr2 (by omega) ?_ | refine shr4 (by omega) ?_)
  k_with "callWith ref" => ((rename News _ _ _ _ => lN'); (k_dflt (refine callWith_F (FnAt.of lN' (.tail _ gf)) ?_)))
  k_with "FnAt" => ((rename News _ _ _ _ => lN'); (k_dflt (exact FnAt.of lN' (.tail _ gf))))
  k_with "call ref" => ((rename Below _ _ _ _ => lB'); (rename Fr _ _ _ _ => lF'); (rename News _ _ _ _ => lN'); (rename Frag.In _ _ => lX'); (rename Top _ _ _ _ _ _ => lT'); (rename CRat _ _ _ _ => lC'); (rename IntsAre _ _ => lI'); (k_dflt (first | (refine' in2 (i := i) lB' lF' lX' lN' lT' ?hA ?hf ?hke ?hd lC' .head ⟨⟨_, _, _, gf⟩, ⟨_, _, g1, e1⟩, ⟨_, g2, e2⟩, ⟨_, g3, e3⟩, off⟩ lI' ?hs ?h0 ?h1 ?ea ?eb ?hn ?_; (case hA => exact Around.frames_deeper hA); (case hf => exact rfl); (case hke => exact rfl); (case hd => (show A.depth + 1 + _ < recursionLimit; omega)); (case hs => ((try simp only [List.length_set]); exact hs)); (case h0 => omega); (case h1 => omega); (case ea => omega); (case eb => omega); (case hn => ((try simp only [List.length_set]); omega))) | (refine' in2 (i := i + 2) lB' lF' lX' lN' lT' ?hA ?hf ?hke ?hd lC' .head ⟨⟨_, _, _, gf⟩, ⟨_, _, g1, e1⟩, ⟨_, g2, e2⟩, ⟨_, g3, e3⟩, off⟩ lI' ?hs ?h0 ?h1 ?ea ?eb ?hn ?_; (case hA => exact Around.frames_deeper hA); (case hf => exact rfl); (case hke => exact rfl); (case hd => (show A.depth + 1 + _ < recursionLimit; omega)); (case hs => ((try simp only [List.length_set]); exact hs)); (case h0 => omega); (case h1 => omega); (case ea => omega); (case eb => omega); (case hn => ((try simp only [List.length_set]); omega))))); intro vs' h' tk' lI2 lF2 lN2; clear lF' lN' lI')
  (refine wpAny_call ?_; refine' code_nest ?k1 ?k2 ?k3 ?k4 ?k5 ?kA ?kF ?kK ?k6 ?k7 ?k8 ?k9 ?kB ?_ ?c2 ?c3 ?c4 ?c5; (case kA => exact hA); (case kF => exact hf); (case kK => exact hke); (case k1 => exact B); (case k2 => exact F); (case k3 => exact X); (case k4 => exact N); (case k5 => exact T); (case k6 => exact .tail _ gf); (case k7 => exact hcr.use F N fun _ h => .tail _ h); (case k8 => exact Nat.lt_of_le_of_lt (Nat.le_add_right _ _) hd); (case k9 => exact BindsTo.of_eq rfl); (case c5 => decide); (case kB => exact locs rfl); (case c2 => exact rfl); (case c3 => exact rfl); (case c4 => exact rfl); k_whole; intro g' L' h' FG' F' N' B' X' T'; (have CR := hcr.step FG'); (try dsimp only); (try k_lift B'); (try k_fold); refine fold_ae ?_; intro eK AK)
  k_steps
  all_goals exact q _ _ _ (by k_asm) (by k_asm) (by k_asm)
end Mine
end

section
open PySem PySem.W PyProof.Rows PySem.Spec PySem.Calls
set_option Elab.async false
set_option maxRecDepth 100000
namespace Mine
theorem kwn_DH : True := by
  k_with_none
  trivial
theorem fillDH : RW = RW ∧ KF = KF := by
  k_fill
  exact ⟨rfl, rfl⟩
set_option maxHeartbeats 0
set_option rowWalk.seconds 0
noncomputable abbrev jF : FnAst := (⟨⟨_, _, _⟩, rfl⟩ : {x : FnAst // (T9.body[0]?).bind fdT = some x}).val
noncomputable abbrev jObj (cd c1 c3 c' : Addr) (dc pm ct : Value) : Obj := fnMade (Str.ofString "inner") qD jF.params jF.body jF.scope [(Str.ofString "n", c1), (Str.ofString "inner", c3), (Str.ofString "digits", cd)] dc pm c' ct
structure JnR (f D cd c1 c3 c' : Addr) (R : List (Addr × Obj)) : Prop where
  hf : ∃ dc pm ct, (f, jObj cd c1 c3 c' dc pm ct) ∈ R
  h1 : ∃ o t, (c1, o) ∈ R ∧ o.data = .cell (some (.int 2 t))
  h2 : ∃ o, (cd, o) ∈ R ∧ o.data = .cell (some (.ref D))
  h3 : ∃ o, (c3, o) ∈ R ∧ o.data = .cell (some (.ref f))
theorem ints_get {y : Int} : ∀ {vs : List Value} {xs : List Int} {i : Nat}, IntsAre vs xs → xs[i]? = some y → ∃ t, vs[i]? = some (.int y t)
  | _, _, _, .nil, h => by cases h
  | _, _, 0, .cons _ t _, h => by cases h; exact ⟨t, rfl⟩
  | _, _, _ + 1, .cons _ _ r, h => by simpa using ints_get r (by simpa using h)
theorem jget {prog : Program} {w : World} {A : Around} {E : Value → Shared → Prop} {s : Shared} {h₀ : Heap} {L D : Addr} {vs : List Value} {xs : List Int} {n i : Nat} {y ia : Int} {t : Tok} {R : List (Addr × Obj)} {Q : Value → Shared → Prop} {e1 e2 : Expr} (N : News h₀ L s.heap R) (hm : (D, W.listOf vs.toArray n) ∈ R) (hv : IntsAre vs xs) (hx : xs[i]? = some y) (hs : xs.length ≤ 4) (hi : ia = (i : Int))
    (q : ∀ t, Q (.int y t) s)
    (hsb : subscripted e2 false (.ref D) (.int ia t) = operate [.ref D, .int ia t] (getItem (.ref D) (.int ia t)) := by with_unfolding_all rfl) (hg : ∀ r, letTemporaryGo e1 (.ref D) r = pure () := by intro _; with_unfolding_all rfl) : wpAny (model prog w) A (subscriptTail e1 e2 (.ref D) (.int ia t)) Q E s := by
  subst hi
  obtain ⟨t', ht⟩ := ints_get hv hx
  have hl : i < xs.length := by
    rcases Nat.lt_or_ge i xs.length with h | h
    · exact h
    · rw [List.getElem?_eq_none h] at hx; cases hx
  exact item_list (PySem.IsL.isList (N _ hm).1) (Int.natCast_nonneg _) (by omega) (by simpa using ht) (q t') hsb hg
theorem jn1 {w : World} {A A₀ : Around} {s : Shared} {Q E : Value → Shared → Prop} {f D cd c1 c3 c' : Addr} {h₀ base : Heap} {L : Addr} {m mg mb : Str → Option Value} {mean : ExcName → Option Value} {env : Env} {outer : List Env} {R : List (Addr × Obj)} {vs : List Value} {n i : Nat} {xs : List Int} {ia ib : Int} {u v : Tok} {y0 : Int}
    (B : Below A₀ base outer h₀) (F : Fr h₀ L s.heap m) (X : (KF w.params).In h₀) (N : News h₀ L s.heap R) (T : Top topProg LN mean mg mb h₀) (hA : A.frames = some (env :: outer)) (hf : env.frame = some L) (hke : env.scope.kind = .function) (hd : A.depth + 1 < recursionLimit) (hcr : CRat h₀ R c' qD) (hR : (D, W.listOf vs.toArray n) ∈ R) (hI : JnR f D cd c1 c3 c' R) (hv : IntsAre vs xs) (hs : xs.length ≤ 4) (ea : ia = (i : Int)) (eb : ib = ia + 1) (hy0 : xs[i]? = some y0)
    (q : ∀ t' h' tk', Fr h₀ L h' m → News h₀ L h' R → Q (.int (y0) t') { s with heap := h', toks := tk' }) :
    wpAny (model PW w) A (call (.ref f) [.int ia u, .int ib v]) Q E s := by
  obtain ⟨⟨dc, pm, ct, gf⟩, ⟨o1, t1, g1, e1⟩, ⟨o2, g2, e2⟩, ⟨o3, g3, e3⟩⟩ := hI
  k_with_none
  k_with "!compareOp Eq int int" => (k_here; first | refine eq_t (by omega) ?_ | refine eq_f (by omega) ?_)
  k_with "!binaryOp LShift int int" => (k_here; first | refine shl2 (by omega) (by omega) (by omega) ?_ | refine shl4 (by omega) (by omega) (by omega) ?_)
  k_with "eval Name" => ((rename News _ _ _ _ => lN'); (k_dflt (first | refine nameX_F lN' rfl g2 e2 ?_ | refine nameX_F lN' rfl g1 e1 ?_ | refine nameX_F lN' rfl g3 e3 ?_)))
  k_with "!subscriptTail" => ((rename News _ _ _ _ => lN'); (k_dflt (refine jget lN' hR hv hy0 hs ea ?_)); intro t9)
  (refine wpAny_call ?_; refine' code_nest ?k1 ?k2 ?k3 ?k4 ?k5 ?kA ?kF ?kK ?k6 ?k7 ?k8 ?k9 ?kB ?_ ?c2 ?c3 ?c4 ?c5; (case kA => exact hA); (case kF => exact hf); (case kK => exact hke); (case k1 => exact B); (case k2 => exact F); (case k3 => exact X); (case k4 => exact N); (case k5 => exact T); (case k6 => exact gf); (case k7 => exact hcr.use F N fun _ h => h); (case k8 => exact Nat.lt_of_le_of_lt (Nat.le_add_right _ _) hd); (case k9 => exact BindsTo.of_eq rfl); (case c5 => decide); (case kB => exact locs rfl); (case c2 => exact rfl); (case c3 => exact rfl); (case c4 => exact rfl); k_whole; intro g' L' h' FG' F' N' B' X' T'; (have CR := hcr.step FG'); (try dsimp only); (try k_lift B'); (try k_fold); refine fold_ae ?_; intro eK AK)
  k_steps
  all_goals exact q _ _ _ (by k_asm) (by k_asm)
theorem jn2 {w : World} {A A₀ : Around} {s : Shared} {Q E : Value → Shared → Prop} {f D cd c1 c3 c' : Addr} {h₀ base : Heap} {L : Addr} {m mg mb : Str → Option Value} {mean : ExcName → Option Value} {env : Env} {outer : List Env} {R : List (Addr × Obj)} {vs : List Value} {n i : Nat} {xs : List Int} {ia ib : Int} {u v : Tok} {y0 : Int} {y1 : Int}
    (B : Below A₀ base outer h₀) (F : Fr h₀ L s.heap m) (X : (KF w.params).In h₀) (N : News h₀ L s.heap R) (T : Top topProg LN mean mg mb h₀) (hA : A.frames = some (env :: outer)) (hf : env.frame = some L) (hke : env.scope.kind = .function) (hd : A.depth + 2 < recursionLimit) (hcr : CRat h₀ R c' qD) (hR : (D, W.listOf vs.toArray n) ∈ R) (hI : JnR f D cd c1 c3 c' R) (hv : IntsAre vs xs) (hs : xs.length ≤ 4) (ea : ia = (i : Int)) (eb : ib = ia + 2) (hy0 : xs[i]? = some y0) (hy1 : xs[i + 1]? = some y1) (p0 : 0 ≤ y0) (r0 : y0 < 4) (p1 : 0 ≤ y1) (r1 : y1 < 4)
    (q : ∀ t' h' tk', Fr h₀ L h' m → News h₀ L h' R → Q (.int (y1 * 4 + y0) t') { s with heap := h', toks := tk' }) :
    wpAny (model PW w) A (call (.ref f) [.int ia u, .int ib v]) Q E s := by
  obtain ⟨⟨dc, pm, ct, gf⟩, ⟨o1, t1, g1, e1⟩, ⟨o2, g2, e2⟩, ⟨o3, g3, e3⟩⟩ := hI
  k_with_none
  k_with "!compareOp Eq int int" => (k_here; first | refine eq_t (by omega) ?_ | refine eq_f (by omega) ?_)
  k_with "!binaryOp LShift int int" => (k_here; first | refine shl2 (by omega) (by omega) (by omega) ?_ | refine shl4 (by omega) (by omega) (by omega) ?_)
  k_with "eval Name" => ((rename News _ _ _ _ => lN'); (k_dflt (first | refine nameX_F lN' rfl g2 e2 ?_ | refine nameX_F lN' rfl g1 e1 ?_ | refine nameX_F lN' rfl g3 e3 ?_)))
  k_with "!binaryOp RShift int int" => (refine shr1 (y := ia + 1) (by omega) (by omega) ?_)
  k_with "callWith ref" => ((rename News _ _ _ _ => lN'); (k_dflt (refine callWith_F (FnAt.of lN' gf) ?_)))
  k_with "FnAt" => ((rename News _ _ _ _ => lN'); (k_dflt (exact FnAt.of lN' gf)))
  k_with "call ref" => ((rename Below _ _ _ _ => lB'); (rename Fr _ _ _ _ => lF'); (rename News _ _ _ _ => lN'); (rename Frag.In _ _ => lX'); (rename Top _ _ _ _ _ _ => lT'); (rename CRat _ _ _ _ => lC'); (k_dflt (first | (refine' jn1 (i := i + 1) lB' lF' lX' lN' lT' ?hA ?hf ?hke ?hd lC' hR ⟨⟨_, _, _, gf⟩, ⟨_, _, g1, e1⟩, ⟨_, g2, e2⟩, ⟨_, g3, e3⟩⟩ hv hs ?ea ?eb hy1 ?_; (case hA => exact Around.frames_deeper hA); (case hf => exact rfl); (case hke => exact rfl); (case hd => (show A.depth + 1 + _ < recursionLimit; omega)); (case ea => omega); (case eb => omega)) | (refine' jn1 (i := i) lB' lF' lX' lN' lT' ?hA ?hf ?hke ?hd lC' hR ⟨⟨_, _, _, gf⟩, ⟨_, _, g1, e1⟩, ⟨_, g2, e2⟩, ⟨_, g3, e3⟩⟩ hv hs ?ea ?eb hy0 ?_; (case hA => exact Around.frames_deeper hA); (case hf => exact rfl); (case hke => exact rfl); (case hd => (show A.depth + 1 + _ < recursionLimit; omega)); (case ea => omega); (case eb => omega)))); intro t8 h' tk' lF2 lN2; clear lF' lN')
  (refine wpAny_call ?_; refine' code_nest ?k1 ?k2 ?k3 ?k4 ?k5 ?kA ?kF ?kK ?k6 ?k7 ?k8 ?k9 ?kB ?_ ?c2 ?c3 ?c4 ?c5; (case kA => exact hA); (case kF => exact hf); (case kK => exact hke); (case k1 => exact B); (case k2 => exact F); (case k3 => exact X); (case k4 => exact N); (case k5 => exact T); (case k6 => exact gf); (case k7 => exact hcr.use F N fun _ h => h); (case k8 => exact Nat.lt_of_le_of_lt (Nat.le_add_right _ _) hd); (case k9 => exact BindsTo.of_eq rfl); (case c5 => decide); (case kB => exact locs rfl); (case c2 => exact rfl); (case c3 => exact rfl); (case c4 => exact rfl); k_whole; intro g' L' h' FG' F' N' B' X' T'; (have CR := hcr.step FG'); (try dsimp only); (try k_lift B'); (try k_fold); refine fold_ae ?_; intro eK AK)
  k_steps
  all_goals exact q _ _ _ (by k_asm) (by k_asm)
theorem jn4 {w : World} {A A₀ : Around} {s : Shared} {Q E : Value → Shared → Prop} {f D cd c1 c3 c' : Addr} {h₀ base : Heap} {L : Addr} {m mg mb : Str → Option Value} {mean : ExcName → Option Value} {env : Env} {outer : List Env} {R : List (Addr × Obj)} {vs : List Value} {n i : Nat} {xs : List Int} {ia ib : Int} {u v : Tok} {y0 : Int} {y1 : Int} {y2 : Int} {y3 : Int}
    (B : Below A₀ base outer h₀) (F : Fr h₀ L s.heap m) (X : (KF w.params).In h₀) (N : News h₀ L s.heap R) (T : Top topProg LN mean mg mb h₀) (hA : A.frames = some (env :: outer)) (hf : env.frame = some L) (hke : env.scope.kind = .function) (hd : A.depth + 3 < recursionLimit) (hcr : CRat h₀ R c' qD) (hR : (D, W.listOf vs.toArray n) ∈ R) (hI : JnR f D cd c1 c3 c' R) (hv : IntsAre vs xs) (hs : xs.length ≤ 4) (ea : ia = (i : Int)) (eb : ib = ia + 4) (hy0 : xs[i]? = some y0) (hy1 : xs[i + 1]? = some y1) (hy2 : xs[i + 2]? = some y2) (hy3 : xs[i + 3]? = some y3) (p0 : 0 ≤ y0) (r0 : y0 < 4) (p1 : 0 ≤ y1) (r1 : y1 < 4) (p2 : 0 ≤ y2) (r2 : y2 < 4) (p3 : 0 ≤ y3) (r3 : y3 < 4)
    (q : ∀ t' h' tk', Fr h₀ L h' m → News h₀ L h' R → Q (.int ((y3 * 4 + y2) * 16 + (y1 * 4 + y0)) t') { s with heap := h', toks := tk' }) :
    wpAny (model PW w) A (call (.ref f) [.int ia u, .int ib v]) Q E s := by
  obtain ⟨⟨dc, pm, ct, gf⟩, ⟨o1, t1, g1, e1⟩, ⟨o2, g2, e2⟩, ⟨o3, g3, e3⟩⟩ := hI
  k_with_none
  k_with "!compareOp Eq int int" => (k_here; first | refine eq_t (by omega) ?_ | refine eq_f (by omega) ?_)
  k_with "!binaryOp LShift int int" => (k_here; first | refine shl2 (by omega) (by omega) (by omega) ?_ | refine shl4 (by omega) (by omega) (by omega) ?_)
  k_with "eval Name" => ((rename News _ _ _ _ => lN'); (k_dflt (first | refine nameX_F lN' rfl g2 e2 ?_ | refine nameX_F lN' rfl g1 e1 ?_ | refine nameX_F lN' rfl g3 e3 ?_)))
  k_with "!binaryOp RShift int int" => (refine shr1 (y := ia + 2) (by omega) (by omega) ?_)
  k_with "callWith ref" => ((rename News _ _ _ _ => lN'); (k_dflt (refine callWith_F (FnAt.of lN' gf) ?_)))
  k_with "FnAt" => ((rename News _ _ _ _ => lN'); (k_dflt (exact FnAt.of lN' gf)))
  k_with "call ref" => ((rename Below _ _ _ _ => lB'); (rename Fr _ _ _ _ => lF'); (rename News _ _ _ _ => lN'); (rename Frag.In _ _ => lX'); (rename Top _ _ _ _ _ _ => lT'); (rename CRat _ _ _ _ => lC'); (k_dflt (first | (refine' jn2 (i := i + 2) lB' lF' lX' lN' lT' ?hA ?hf ?hke ?hd lC' hR ⟨⟨_, _, _, gf⟩, ⟨_, _, g1, e1⟩, ⟨_, g2, e2⟩, ⟨_, g3, e3⟩⟩ hv hs ?ea ?eb hy2 hy3 p2 r2 p3 r3 ?_; (case hA => exact Around.frames_deeper hA); (case hf => exact rfl); (case hke => exact rfl); (case hd => (show A.depth + 1 + _ < recursionLimit; omega)); (case ea => omega); (case eb => omega)) | (refine' jn2 (i := i) lB' lF' lX' lN' lT' ?hA ?hf ?hke ?hd lC' hR ⟨⟨_, _, _, gf⟩, ⟨_, _, g1, e1⟩, ⟨_, g2, e2⟩, ⟨_, g3, e3⟩⟩ hv hs ?ea ?eb hy0 hy1 p0 r0 p1 r1 ?_; (case hA => exact Around.frames_deeper hA); (case hf => exact rfl); (case hke => exact rfl); (case hd => (show A.depth + 1 + _ < recursionLimit; omega)); (case ea => omega); (case eb => omega)))); intro t8 h' tk' lF2 lN2; clear lF' lN')
  (refine wpAny_call ?_; refine' code_nest ?k1 ?k2 ?k3 ?k4 ?k5 ?kA ?kF ?kK ?k6 ?k7 ?k8 ?k9 ?kB ?_ ?c2 ?c3 ?c4 ?c5; (case kA => exact hA); (case kF => exact hf); (case kK => exact hke); (case k1 => exact B); (case k2 => exact F); (case k3 => exact X); (case k4 => exact N); (case k5 => exact T); (case k6 => exact gf); (case k7 => exact hcr.use F N fun _ h => h); (case k8 => exact Nat.lt_of_le_of_lt (Nat.le_add_right _ _) hd); (case k9 => exact BindsTo.of_eq rfl); (case c5 => decide); (case kB => exact locs rfl); (case c2 => exact rfl); (case c3 => exact rfl); (case c4 => exact rfl); k_whole; intro g' L' h' FG' F' N' B' X' T'; (have CR := hcr.step FG'); (try dsimp only); (try k_lift B'); (try k_fold); refine fold_ae ?_; intro eK AK)
  k_steps
  all_goals exact q _ _ _ (by k_asm) (by k_asm)
end Mine
end

section
open PySem PySem.W PyProof.Rows PySem.Spec PySem.Calls
set_option Elab.async false
set_option maxRecDepth 100000
namespace Mine
theorem kwn_DGa : True := by
  k_with_none
  trivial
theorem fillDGa : RW = RW ∧ KF = KF := by
  k_fill
  exact ⟨rfl, rfl⟩
set_option maxHeartbeats 0
set_option rowWalk.seconds 0
theorem dig1 {w : World} {c' : Addr} {ai : Int} (h0 : 1 ≤ ai) (h1 : ai < 4) {t u : Tok} {mean : ExcName → Option Value} {mg mb : Str → Option Value} {dp un : Nat} {gd : Option (List Code)} {cn : Str} {cs : Scope} {a : Addr} {ccd : Value} {cl : List (Str × Addr)} {outer : List Env} {A₀ : Around} {base h₀ : Heap} {L : Addr} {m : Str → Option Value} {s : Shared} {Q E : Value → Shared → Prop} {rest : List (Addr × Obj)}
    (B : Below A₀ base outer h₀) (F : Fr h₀ L s.heap m) (X : (KF w.params).In h₀) (N : News h₀ L s.heap [(104, tabObj (tabOf 19 4 c'))]) (NR : News h₀ L s.heap rest) (off : ∀ p ∈ rest, p.1 ∉ [((104 : Addr), tabObj (tabOf 19 4 c'))].map (·.1))
    (hc : s.heap.CodeRec (.ref c') qI) (hcn : c' ≠ 104) (T : Top topProg LN mean mg mb h₀) (hk : cs.kind = .function) (hd : dp + 6 < recursionLimit) (hu : un + 48 < cLine)
    (hret : ∀ l vs n h' tk', IntsAre vs [ai] → Fr h₀ L h' m → News h₀ L h' [(l, W.listOf vs.toArray n), (104, tabObj (tabOf 19 4 c'))] → News h₀ L h' rest → (∀ p ∈ rest, @LT.lt Nat _ p.1 l) → @LT.lt Nat _ 104 l → Q (.ref l) { s with heap := h', toks := tk' }) :
    wpAny (model PW w) (ktrTop dp un gd cn cs L a ccd cl outer) (call (.ref 109) [.int ai t, .int 2 u]) Q E s := by
  k_with_none
  k_with "binaryOp Mult ref int" => (rw [bits1 h0 h1])
  k_with "call ref" => ((rename Below _ _ _ _ => lB'); (rename Fr _ _ _ _ => lF'); (rename News _ _ _ _ => lN'); (rename Frag.In _ _ => lX'); (rename Top _ _ _ _ _ _ => lT'); (rename Heap.CodeRec _ _ _ => lC'); (rename IntsAre _ _ => lI'); (k_dflt (refine' in1 (i := 0) lB' lF' lX' lN' lT' ?hA ?hf ?hke ?hd (.inl lC') ?hR ⟨?f1, ?f2, ?f3, ?f4, ?f5⟩ lI' ?hs ?h0 ?h1 ?ea ?eb ?hn ?_; (case hA => exact rfl); (case hf => exact rfl); (case hke => exact rfl); (case hd => (show dp + 1 + _ < recursionLimit; omega)); (case hR => repeat (first | exact Rem.head | apply Rem.tail)); (case f1 => exact ⟨_, _, _, by k_mem⟩); (case f2 => exact ⟨_, _, by k_mem, by assumption⟩); (case f3 => exact ⟨_, by k_mem, by assumption⟩); (case f4 => exact ⟨_, by k_mem, by assumption⟩); (case f5 => k_all); (case hs => exact Nat.le_of_ble_eq_true rfl); (case h0 => omega); (case h1 => omega); (case ea => exact rfl); (case eb => exact rfl); (case hn => exact Nat.le_of_ble_eq_true rfl))); intro vs' h' tk' lI2 lF2 lN2; clear lF' lN' lI')
  refine wpAny_call ?_
  k_dflt (refine' code_defCF (rest := rest) ?k1 ?k2 ?k3 ?k4 ?kr1 ?kr2 ?k5 ?kA ?kF ?kK ?k6 ?k7 ?k8 ?k9 ?kB ?kD ?_ ?c2 ?c3 ?c4; (case kA => exact rfl); (case kF => exact rfl); (case kK => first | exact rfl | assumption); (case k1 => k_asm); (case k2 => k_asm); (case k3 => k_asm); (case k4 => exact N); (case kr1 => exact NR); (case kr2 => exact off); (case k5 => k_asm); (case k6 => k_is); (case k7 => k_is); (case k8 => ktr_room); (case k9 => first | exact BindsTo.of_eq rfl | exact binds_K (by k_in) rfl (by k_is) rfl rfl rfl); (case kB => exact rfl); (case kD => decide +kernel); (case c2 => exact rfl); (case c3 => exact rfl); (case c4 => exact rfl); k_whole; intro g' L' h' tk' cells' HB FG' F' N' Y' B' X' T' l1 LR; (try k_lt l1); k_cells Y'; (try simp only [List.cons_append, List.nil_append] at N'); (try dsimp only); (try k_lift B'); (try k_fold); refine fold_ae ?_; intro eK AK)
  have CH : CodeHd g' 108 104 := codeHd_of_K X' (by kernel_rfl)
  have CR : g'.CodeRec (.ref c') qI := coderec_hold hc HB hcn
  k_steps
  all_goals first
    | (exfalso; omega)
    | (unfold RestR; dsimp only; rename News _ _ _ _ => kN9; intro NR'; refine' hret _ _ _ _ _ ?ia ?f ?n NR' ?ne ?lt0; (case f => k_asm); (case n => k_dflt (exact cb_drop kN9 (SubL.mem (by k_subL)))); (case ia => k_dflt (first | assumption | exact .nil | exact .cons _ _ .nil | exact .cons _ _ (.cons _ _ .nil) | exact .cons _ _ (.cons _ _ (.cons _ _ .nil)) | exact .cons _ _ (.cons _ _ (.cons _ _ (.cons _ _ .nil))))); (case ne => exact fun p hp => Nat.lt_trans (LR p hp) (by omega)); (case lt0 => omega))
theorem dig2 {w : World} {c' : Addr} {ai : Int} (h0 : 4 ≤ ai) (h1 : ai < 16) {t u : Tok} {mean : ExcName → Option Value} {mg mb : Str → Option Value} {dp un : Nat} {gd : Option (List Code)} {cn : Str} {cs : Scope} {a : Addr} {ccd : Value} {cl : List (Str × Addr)} {outer : List Env} {A₀ : Around} {base h₀ : Heap} {L : Addr} {m : Str → Option Value} {s : Shared} {Q E : Value → Shared → Prop} {rest : List (Addr × Obj)}
    (B : Below A₀ base outer h₀) (F : Fr h₀ L s.heap m) (X : (KF w.params).In h₀) (N : News h₀ L s.heap [(104, tabObj (tabOf 19 4 c'))]) (NR : News h₀ L s.heap rest) (off : ∀ p ∈ rest, p.1 ∉ [((104 : Addr), tabObj (tabOf 19 4 c'))].map (·.1))
    (hc : s.heap.CodeRec (.ref c') qI) (hcn : c' ≠ 104) (T : Top topProg LN mean mg mb h₀) (hk : cs.kind = .function) (hd : dp + 6 < recursionLimit) (hu : un + 48 < cLine)
    (hret : ∀ l vs n h' tk', IntsAre vs [ai % 4, ai / 4] → Fr h₀ L h' m → News h₀ L h' [(l, W.listOf vs.toArray n), (104, tabObj (tabOf 19 4 c'))] → News h₀ L h' rest → (∀ p ∈ rest, @LT.lt Nat _ p.1 l) → @LT.lt Nat _ 104 l → Q (.ref l) { s with heap := h', toks := tk' }) :
    wpAny (model PW w) (ktrTop dp un gd cn cs L a ccd cl outer) (call (.ref 109) [.int ai t, .int 2 u]) Q E s := by
  k_with_none
  k_with "binaryOp Mult ref int" => (rw [bits2 h0 h1])
  k_with "call ref" => ((rename Below _ _ _ _ => lB'); (rename Fr _ _ _ _ => lF'); (rename News _ _ _ _ => lN'); (rename Frag.In _ _ => lX'); (rename Top _ _ _ _ _ _ => lT'); (rename Heap.CodeRec _ _ _ => lC'); (rename IntsAre _ _ => lI'); (k_dflt (refine' in2 (i := 0) lB' lF' lX' lN' lT' ?hA ?hf ?hke ?hd (.inl lC') ?hR ⟨?f1, ?f2, ?f3, ?f4, ?f5⟩ lI' ?hs ?h0 ?h1 ?ea ?eb ?hn ?_; (case hA => exact rfl); (case hf => exact rfl); (case hke => exact rfl); (case hd => (show dp + 1 + _ < recursionLimit; omega)); (case hR => repeat (first | exact Rem.head | apply Rem.tail)); (case f1 => exact ⟨_, _, _, by k_mem⟩); (case f2 => exact ⟨_, _, by k_mem, by assumption⟩); (case f3 => exact ⟨_, by k_mem, by assumption⟩); (case f4 => exact ⟨_, by k_mem, by assumption⟩); (case f5 => k_all); (case hs => exact Nat.le_of_ble_eq_true rfl); (case h0 => omega); (case h1 => omega); (case ea => exact rfl); (case eb => exact rfl); (case hn => exact Nat.le_of_ble_eq_true rfl))); intro vs' h' tk' lI2 lF2 lN2; clear lF' lN' lI')
  refine wpAny_call ?_
  k_dflt (refine' code_defCF (rest := rest) ?k1 ?k2 ?k3 ?k4 ?kr1 ?kr2 ?k5 ?kA ?kF ?kK ?k6 ?k7 ?k8 ?k9 ?kB ?kD ?_ ?c2 ?c3 ?c4; (case kA => exact rfl); (case kF => exact rfl); (case kK => first | exact rfl | assumption); (case k1 => k_asm); (case k2 => k_asm); (case k3 => k_asm); (case k4 => exact N); (case kr1 => exact NR); (case kr2 => exact off); (case k5 => k_asm); (case k6 => k_is); (case k7 => k_is); (case k8 => ktr_room); (case k9 => first | exact BindsTo.of_eq rfl | exact binds_K (by k_in) rfl (by k_is) rfl rfl rfl); (case kB => exact rfl); (case kD => decide +kernel); (case c2 => exact rfl); (case c3 => exact rfl); (case c4 => exact rfl); k_whole; intro g' L' h' tk' cells' HB FG' F' N' Y' B' X' T' l1 LR; (try k_lt l1); k_cells Y'; (try simp only [List.cons_append, List.nil_append] at N'); (try dsimp only); (try k_lift B'); (try k_fold); refine fold_ae ?_; intro eK AK)
  have CH : CodeHd g' 108 104 := codeHd_of_K X' (by kernel_rfl)
  have CR : g'.CodeRec (.ref c') qI := coderec_hold hc HB hcn
  k_steps
  all_goals first
    | (exfalso; omega)
    | (unfold RestR; dsimp only; rename News _ _ _ _ => kN9; intro NR'; refine' hret _ _ _ _ _ ?ia ?f ?n NR' ?ne ?lt0; (case f => k_asm); (case n => k_dflt (exact cb_drop kN9 (SubL.mem (by k_subL)))); (case ia => k_dflt (first | assumption | exact .nil | exact .cons _ _ .nil | exact .cons _ _ (.cons _ _ .nil) | exact .cons _ _ (.cons _ _ (.cons _ _ .nil)) | exact .cons _ _ (.cons _ _ (.cons _ _ (.cons _ _ .nil))))); (case ne => exact fun p hp => Nat.lt_trans (LR p hp) (by omega)); (case lt0 => omega))
end Mine
end

section
open PySem PySem.W PyProof.Rows PySem.Spec PySem.Calls
set_option Elab.async false
set_option maxRecDepth 100000
namespace Mine
theorem kwn_DGb : True := by
  k_with_none
  trivial
theorem fillDGb : RW = RW ∧ KF = KF := by
  k_fill
  exact ⟨rfl, rfl⟩
set_option maxHeartbeats 0
set_option rowWalk.seconds 0
theorem dig3 {w : World} {c' : Addr} {ai : Int} (h0 : 16 ≤ ai) (h1 : ai < 64) {t u : Tok} {mean : ExcName → Option Value} {mg mb : Str → Option Value} {dp un : Nat} {gd : Option (List Code)} {cn : Str} {cs : Scope} {a : Addr} {ccd : Value} {cl : List (Str × Addr)} {outer : List Env} {A₀ : Around} {base h₀ : Heap} {L : Addr} {m : Str → Option Value} {s : Shared} {Q E : Value → Shared → Prop} {rest : List (Addr × Obj)}
    (B : Below A₀ base outer h₀) (F : Fr h₀ L s.heap m) (X : (KF w.params).In h₀) (N : News h₀ L s.heap [(104, tabObj (tabOf 19 4 c'))]) (NR : News h₀ L s.heap rest) (off : ∀ p ∈ rest, p.1 ∉ [((104 : Addr), tabObj (tabOf 19 4 c'))].map (·.1))
    (hc : s.heap.CodeRec (.ref c') qI) (hcn : c' ≠ 104) (T : Top topProg LN mean mg mb h₀) (hk : cs.kind = .function) (hd : dp + 6 < recursionLimit) (hu : un + 48 < cLine)
    (hret : ∀ l vs n h' tk', IntsAre vs [ai % 4, ai / 4 % 4, ai / 4 / 4] → Fr h₀ L h' m → News h₀ L h' [(l, W.listOf vs.toArray n), (104, tabObj (tabOf 19 4 c'))] → News h₀ L h' rest → (∀ p ∈ rest, @LT.lt Nat _ p.1 l) → @LT.lt Nat _ 104 l → Q (.ref l) { s with heap := h', toks := tk' }) :
    wpAny (model PW w) (ktrTop dp un gd cn cs L a ccd cl outer) (call (.ref 109) [.int ai t, .int 2 u]) Q E s := by
  k_with_none
  k_with "binaryOp Mult ref int" => (rw [bits3 h0 h1])
  k_with "call ref" => ((rename Below _ _ _ _ => lB'); (rename Fr _ _ _ _ => lF'); (rename News _ _ _ _ => lN'); (rename Frag.In _ _ => lX'); (rename Top _ _ _ _ _ _ => lT'); (rename Heap.CodeRec _ _ _ => lC'); (rename IntsAre _ _ => lI'); (k_dflt (refine' in3 (i := 0) lB' lF' lX' lN' lT' ?hA ?hf ?hke ?hd (.inl lC') ?hR ⟨?f1, ?f2, ?f3, ?f4, ?f5⟩ lI' ?hs ?h0 ?h1 ?ea ?eb ?hn ?_; (case hA => exact rfl); (case hf => exact rfl); (case hke => exact rfl); (case hd => (show dp + 1 + _ < recursionLimit; omega)); (case hR => repeat (first | exact Rem.head | apply Rem.tail)); (case f1 => exact ⟨_, _, _, by k_mem⟩); (case f2 => exact ⟨_, _, by k_mem, by assumption⟩); (case f3 => exact ⟨_, by k_mem, by assumption⟩); (case f4 => exact ⟨_, by k_mem, by assumption⟩); (case f5 => k_all); (case hs => exact Nat.le_of_ble_eq_true rfl); (case h0 => omega); (case h1 => omega); (case ea => exact rfl); (case eb => exact rfl); (case hn => exact Nat.le_of_ble_eq_true rfl))); intro vs' h' tk' lI2 lF2 lN2; clear lF' lN' lI')
  refine wpAny_call ?_
  k_dflt (refine' code_defCF (rest := rest) ?k1 ?k2 ?k3 ?k4 ?kr1 ?kr2 ?k5 ?kA ?kF ?kK ?k6 ?k7 ?k8 ?k9 ?kB ?kD ?_ ?c2 ?c3 ?c4; (case kA => exact rfl); (case kF => exact rfl); (case kK => first | exact rfl | assumption); (case k1 => k_asm); (case k2 => k_asm); (case k3 => k_asm); (case k4 => exact N); (case kr1 => exact NR); (case kr2 => exact off); (case k5 => k_asm); (case k6 => k_is); (case k7 => k_is); (case k8 => ktr_room); (case k9 => first | exact BindsTo.of_eq rfl | exact binds_K (by k_in) rfl (by k_is) rfl rfl rfl); (case kB => exact rfl); (case kD => decide +kernel); (case c2 => exact rfl); (case c3 => exact rfl); (case c4 => exact rfl); k_whole; intro g' L' h' tk' cells' HB FG' F' N' Y' B' X' T' l1 LR; (try k_lt l1); k_cells Y'; (try simp only [List.cons_append, List.nil_append] at N'); (try dsimp only); (try k_lift B'); (try k_fold); refine fold_ae ?_; intro eK AK)
  have CH : CodeHd g' 108 104 := codeHd_of_K X' (by kernel_rfl)
  have CR : g'.CodeRec (.ref c') qI := coderec_hold hc HB hcn
  k_steps
  all_goals first
    | (exfalso; omega)
    | (unfold RestR; dsimp only; rename News _ _ _ _ => kN9; intro NR'; refine' hret _ _ _ _ _ ?ia ?f ?n NR' ?ne ?lt0; (case f => k_asm); (case n => k_dflt (exact cb_drop kN9 (SubL.mem (by k_subL)))); (case ia => k_dflt (first | assumption | exact .nil | exact .cons _ _ .nil | exact .cons _ _ (.cons _ _ .nil) | exact .cons _ _ (.cons _ _ (.cons _ _ .nil)) | exact .cons _ _ (.cons _ _ (.cons _ _ (.cons _ _ .nil))))); (case ne => exact fun p hp => Nat.lt_trans (LR p hp) (by omega)); (case lt0 => omega))
end Mine
end

section
open PySem PySem.W PyProof.Rows PySem.Spec PySem.Calls
set_option Elab.async false
set_option maxRecDepth 100000
namespace Mine
theorem kwn_DGc : True := by
  k_with_none
  trivial
theorem fillDGc : RW = RW ∧ KF = KF := by
  k_fill
  exact ⟨rfl, rfl⟩
set_option maxHeartbeats 0
set_option rowWalk.seconds 0
theorem dig4 {w : World} {c' : Addr} {ai : Int} (h0 : 64 ≤ ai) (h1 : ai < 256) {t u : Tok} {mean : ExcName → Option Value} {mg mb : Str → Option Value} {dp un : Nat} {gd : Option (List Code)} {cn : Str} {cs : Scope} {a : Addr} {ccd : Value} {cl : List (Str × Addr)} {outer : List Env} {A₀ : Around} {base h₀ : Heap} {L : Addr} {m : Str → Option Value} {s : Shared} {Q E : Value → Shared → Prop} {rest : List (Addr × Obj)}
    (B : Below A₀ base outer h₀) (F : Fr h₀ L s.heap m) (X : (KF w.params).In h₀) (N : News h₀ L s.heap [(104, tabObj (tabOf 19 4 c'))]) (NR : News h₀ L s.heap rest) (off : ∀ p ∈ rest, p.1 ∉ [((104 : Addr), tabObj (tabOf 19 4 c'))].map (·.1))
    (hc : s.heap.CodeRec (.ref c') qI) (hcn : c' ≠ 104) (T : Top topProg LN mean mg mb h₀) (hk : cs.kind = .function) (hd : dp + 6 < recursionLimit) (hu : un + 48 < cLine)
    (hret : ∀ l vs n h' tk', IntsAre vs [ai % 16 % 4, ai % 16 / 4, ai / 16 % 4, ai / 16 / 4] → Fr h₀ L h' m → News h₀ L h' [(l, W.listOf vs.toArray n), (104, tabObj (tabOf 19 4 c'))] → News h₀ L h' rest → (∀ p ∈ rest, @LT.lt Nat _ p.1 l) → @LT.lt Nat _ 104 l → Q (.ref l) { s with heap := h', toks := tk' }) :
    wpAny (model PW w) (ktrTop dp un gd cn cs L a ccd cl outer) (call (.ref 109) [.int ai t, .int 2 u]) Q E s := by
  k_with_none
  k_with "binaryOp Mult ref int" => (rw [bits4 h0 h1])
  k_with "call ref" => ((rename Below _ _ _ _ => lB'); (rename Fr _ _ _ _ => lF'); (rename News _ _ _ _ => lN'); (rename Frag.In _ _ => lX'); (rename Top _ _ _ _ _ _ => lT'); (rename Heap.CodeRec _ _ _ => lC'); (rename IntsAre _ _ => lI'); (k_dflt (refine' in4 (i := 0) lB' lF' lX' lN' lT' ?hA ?hf ?hke ?hd (.inl lC') ?hR ⟨?f1, ?f2, ?f3, ?f4, ?f5⟩ lI' ?hs ?h0 ?h1 ?ea ?eb ?hn ?_; (case hA => exact rfl); (case hf => exact rfl); (case hke => exact rfl); (case hd => (show dp + 1 + _ < recursionLimit; omega)); (case hR => repeat (first | exact Rem.head | apply Rem.tail)); (case f1 => exact ⟨_, _, _, by k_mem⟩); (case f2 => exact ⟨_, _, by k_mem, by assumption⟩); (case f3 => exact ⟨_, by k_mem, by assumption⟩); (case f4 => exact ⟨_, by k_mem, by assumption⟩); (case f5 => k_all); (case hs => exact Nat.le_of_ble_eq_true rfl); (case h0 => omega); (case h1 => omega); (case ea => exact rfl); (case eb => exact rfl); (case hn => exact Nat.le_of_ble_eq_true rfl))); intro vs' h' tk' lI2 lF2 lN2; clear lF' lN' lI')
  refine wpAny_call ?_
  k_dflt (refine' code_defCF (rest := rest) ?k1 ?k2 ?k3 ?k4 ?kr1 ?kr2 ?k5 ?kA ?kF ?kK ?k6 ?k7 ?k8 ?k9 ?kB ?kD ?_ ?c2 ?c3 ?c4; (case kA => exact rfl); (case kF => exact rfl); (case kK => first | exact rfl | assumption); (case k1 => k_asm); (case k2 => k_asm); (case k3 => k_asm); (case k4 => exact N); (case kr1 => exact NR); (case kr2 => exact off); (case k5 => k_asm); (case k6 => k_is); (case k7 => k_is); (case k8 => ktr_room); (case k9 => first | exact BindsTo.of_eq rfl | exact binds_K (by k_in) rfl (by k_is) rfl rfl rfl); (case kB => exact rfl); (case kD => decide +kernel); (case c2 => exact rfl); (case c3 => exact rfl); (case c4 => exact rfl); k_whole; intro g' L' h' tk' cells' HB FG' F' N' Y' B' X' T' l1 LR; (try k_lt l1); k_cells Y'; (try simp only [List.cons_append, List.nil_append] at N'); (try dsimp only); (try k_lift B'); (try k_fold); refine fold_ae ?_; intro eK AK)
  have CH : CodeHd g' 108 104 := codeHd_of_K X' (by kernel_rfl)
  have CR : g'.CodeRec (.ref c') qI := coderec_hold hc HB hcn
  k_steps
  all_goals first
    | (exfalso; omega)
    | (unfold RestR; dsimp only; rename News _ _ _ _ => kN9; intro NR'; refine' hret _ _ _ _ _ ?ia ?f ?n NR' ?ne ?lt0; (case f => k_asm); (case n => k_dflt (exact cb_drop kN9 (SubL.mem (by k_subL)))); (case ia => k_dflt (first | assumption | exact .nil | exact .cons _ _ .nil | exact .cons _ _ (.cons _ _ .nil) | exact .cons _ _ (.cons _ _ (.cons _ _ .nil)) | exact .cons _ _ (.cons _ _ (.cons _ _ (.cons _ _ .nil))))); (case ne => exact fun p hp => Nat.lt_trans (LR p hp) (by omega)); (case lt0 => omega))
end Mine
end

section
open PySem PySem.W PyProof.Rows PySem.Spec PySem.Calls
set_option Elab.async false
set_option maxRecDepth 100000
namespace Mine
theorem kwn_DGd : True := by
  k_with_none
  trivial
theorem fillDGd : RW = RW ∧ KF = KF := by
  k_fill
  exact ⟨rfl, rfl⟩
set_option maxHeartbeats 0
set_option rowWalk.seconds 0
theorem digF {w : World} {ai : Int} (h0 : 1 ≤ ai) (h1 : ai < 4) {t u : Tok} {mean : ExcName → Option Value} {mg mb : Str → Option Value} {dp un : Nat} {gd : Option (List Code)} {cn : Str} {cs : Scope} {a : Addr} {ccd : Value} {cl : List (Str × Addr)} {outer : List Env} {A₀ : Around} {base h₀ : Heap} {L : Addr} {m : Str → Option Value} {s : Shared} {Q E : Value → Shared → Prop} {rest : List (Addr × Obj)}
    (B : Below A₀ base outer h₀) (F : Fr h₀ L s.heap m) (X : (KF w.params).In h₀) (N : News h₀ L s.heap [(104, tabObj #[])]) (NR : News h₀ L s.heap rest) (off : ∀ p ∈ rest, p.1 ∉ [((104 : Addr), tabObj #[])].map (·.1))
    (T : Top topProg LN mean mg mb h₀) (hk : cs.kind = .function) (hd : dp + 6 < recursionLimit) (hu : un + 48 < cLine)
    (hret : ∀ l vs n h' tk' c' oc, IntsAre vs [ai] → CodeObj oc qI → Fr h₀ L h' m → News h₀ L h' [(l, W.listOf vs.toArray n), (104, tabObj (tabOf 19 4 c')), (c', oc)] → News h₀ L h' rest → (∀ p ∈ rest, @LT.lt Nat _ p.1 l) → @LT.lt Nat _ 104 l → @LT.lt Nat _ l c' → (∀ p ∈ rest, @LT.lt Nat _ p.1 c') → @LT.lt Nat _ 104 c' → Q (.ref l) { s with heap := h', toks := tk' }) :
    wpAny (model PW w) (ktrTop dp un gd cn cs L a ccd cl outer) (call (.ref 109) [.int ai t, .int 2 u]) Q E s := by
  k_with_none
  k_with "!binaryOp RShift int int" => (k_here; first | refine shr2 (by decide) ?_ | refine shr4 (by decide) ?_)
  k_with "!binaryOp LShift int int" => (k_here; first | refine shl2 (by decide) (by omega) (by omega) ?_ | refine shl4 (by decide) (by omega) (by omega) ?_)
  k_with "!binaryOp BitXor int int" => (k_here; first | refine xor2 (by omega) (by omega) ?_ | refine xor4 (by omega) (by omega) ?_)
  k_with "binaryOp Mult ref int" => (rw [bits1 h0 h1])
  k_with "call ref" => (k_dflt (refine wpAny_call ?_; refine' code_nest ?k1 ?k2 ?k3 ?k4 ?k5 ?kA ?kF ?kK ?k6 ?k7 ?k8 ?k9 ?kB ?_ ?c2 ?c3 ?c4 ?c5; (case kA => exact rfl); (case kF => exact rfl); (case kK => first | exact rfl | assumption); (case k1 => k_asm); (case k2 => k_asm); (case k3 => k_asm); (case k4 => k_asm); (case k5 => k_asm); (case k6 => k_mem); (case k7 => exact codeRec_news (by k_asm) (by k_mem) (by assumption) (by assumption)); (case k8 => ktr_room); (case k9 => exact BindsTo.of_eq rfl); (case c5 => decide); (case kB => exact locs rfl); (case c2 => exact rfl); (case c3 => exact rfl); (case c4 => exact rfl); k_whole; intro g' L' h' FG' F' N' B' X' T'; (try dsimp only); (try k_lift B'); (try k_fold)))
  refine wpAny_call ?_
  k_dflt (refine' code_defCF (rest := rest) ?k1 ?k2 ?k3 ?k4 ?kr1 ?kr2 ?k5 ?kA ?kF ?kK ?k6 ?k7 ?k8 ?k9 ?kB ?kD ?_ ?c2 ?c3 ?c4; (case kA => exact rfl); (case kF => exact rfl); (case kK => first | exact rfl | assumption); (case k1 => k_asm); (case k2 => k_asm); (case k3 => k_asm); (case k4 => exact N); (case kr1 => exact NR); (case kr2 => exact off); (case k5 => k_asm); (case k6 => k_is); (case k7 => k_is); (case k8 => ktr_room); (case k9 => first | exact BindsTo.of_eq rfl | exact binds_K (by k_in) rfl (by k_is) rfl rfl rfl); (case kB => exact rfl); (case kD => decide +kernel); (case c2 => exact rfl); (case c3 => exact rfl); (case c4 => exact rfl); k_whole; intro g' L' h' tk' cells' HB FG' F' N' Y' B' X' T' l1 LR; (try k_lt l1); k_cells Y'; (try simp only [List.cons_append, List.nil_append] at N'); (try dsimp only); (try k_lift B'); (try k_fold); refine fold_ae ?_; intro eK AK)
  have CH : CodeHd g' 108 104 := codeHd_of_K X' (by kernel_rfl)
  k_steps
  all_goals first
    | (exfalso; omega)
    | (unfold RestR; dsimp only; rename News _ _ _ _ => kN9; intro NR'; refine' hret _ _ _ _ _ _ _ ?ia ?co ?f ?n NR' ?ne ?lt0 ?lt1 ?ne2 ?lt; (case f => k_asm); (case n => k_dflt (exact cb_drop kN9 (SubL.mem (by k_subL)))); (case ia => k_dflt (first | exact .nil | exact .cons _ _ .nil | exact .cons _ _ (.cons _ _ .nil) | exact .cons _ _ (.cons _ _ (.cons _ _ .nil)) | exact .cons _ _ (.cons _ _ (.cons _ _ (.cons _ _ .nil))))); (case co => exact ⟨_, _, by assumption, by assumption⟩); (case ne => exact fun p hp => Nat.lt_trans (LR p hp) (by omega)); (case ne2 => exact fun p hp => Nat.lt_trans (LR p hp) (by omega)); (case lt => omega); (case lt0 => omega); (case lt1 => omega))
end Mine
end

section
open PySem PySem.W PyProof.Rows PySem.Spec PySem.Calls
set_option Elab.async false
set_option maxRecDepth 100000
namespace Mine
theorem kwn_DGz : True := by
  k_with_none
  trivial
theorem fillDGz : RW = RW ∧ KF = KF := by
  k_fill
  exact ⟨rfl, rfl⟩
set_option maxHeartbeats 0
set_option rowWalk.seconds 0
theorem bits0 : ((((Builtin.Int.intBits 0 : Nat) : Int) + 2 - 1).fdiv 2) = 0 := rfl
theorem dig0 {w : World} {c' : Addr} {t u : Tok} {mean : ExcName → Option Value} {mg mb : Str → Option Value} {dp un : Nat} {gd : Option (List Code)} {cn : Str} {cs : Scope} {a : Addr} {ccd : Value} {cl : List (Str × Addr)} {outer : List Env} {A₀ : Around} {base h₀ : Heap} {L : Addr} {m : Str → Option Value} {s : Shared} {Q E : Value → Shared → Prop} {rest : List (Addr × Obj)}
    (B : Below A₀ base outer h₀) (F : Fr h₀ L s.heap m) (X : (KF w.params).In h₀) (N : News h₀ L s.heap [(104, tabObj (tabOf 19 4 c'))]) (NR : News h₀ L s.heap rest) (off : ∀ p ∈ rest, p.1 ∉ [((104 : Addr), tabObj (tabOf 19 4 c'))].map (·.1))
    (hc : s.heap.CodeRec (.ref c') qI) (hcn : c' ≠ 104) (T : Top topProg LN mean mg mb h₀) (hk : cs.kind = .function) (hd : dp + 6 < recursionLimit) (hu : un + 48 < cLine)
    (hret : ∀ l vs n h' tk', IntsAre vs [] → Fr h₀ L h' m → News h₀ L h' [(l, W.listOf vs.toArray n), (104, tabObj (tabOf 19 4 c'))] → News h₀ L h' rest → (∀ p ∈ rest, @LT.lt Nat _ p.1 l) → @LT.lt Nat _ 104 l → Q (.ref l) { s with heap := h', toks := tk' }) :
    wpAny (model PW w) (ktrTop dp un gd cn cs L a ccd cl outer) (call (.ref 109) [.int 0 t, .int 2 u]) Q E s := by
  k_with_none
  k_with "!binaryOp RShift int int" => (k_here; first | refine shr2 (by decide) ?_ | refine shr4 (by decide) ?_)
  k_with "!binaryOp LShift int int" => (k_here; first | refine shl2 (by decide) (by omega) (by omega) ?_ | refine shl4 (by decide) (by omega) (by omega) ?_)
  k_with "!binaryOp BitXor int int" => (k_here; first | refine xor2 (by omega) (by omega) ?_ | refine xor4 (by omega) (by omega) ?_)
  k_with "binaryOp Mult ref int" => (rw [bits0])
  k_with "call ref" => (k_dflt (refine wpAny_call ?_; refine' code_nest ?k1 ?k2 ?k3 ?k4 ?k5 ?kA ?kF ?kK ?k6 ?k7 ?k8 ?k9 ?kB ?_ ?c2 ?c3 ?c4 ?c5; (case kA => exact rfl); (case kF => exact rfl); (case kK => first | exact rfl | assumption); (case k1 => k_asm); (case k2 => k_asm); (case k3 => k_asm); (case k4 => k_asm); (case k5 => k_asm); (case k6 => k_mem); (case k7 => exact cr_step (by k_asm) (by assumption)); (case k8 => ktr_room); (case k9 => exact BindsTo.of_eq rfl); (case c5 => decide); (case kB => exact locs rfl); (case c2 => exact rfl); (case c3 => exact rfl); (case c4 => exact rfl); k_whole; intro g' L' h' FG' F' N' B' X' T'; (have CR : Heap.CodeRec _ (.ref c') qI := cr_step FG' (by assumption)); (try dsimp only); (try k_lift B'); (try k_fold)))
  refine wpAny_call ?_
  k_dflt (refine' code_defCF (rest := rest) ?k1 ?k2 ?k3 ?k4 ?kr1 ?kr2 ?k5 ?kA ?kF ?kK ?k6 ?k7 ?k8 ?k9 ?kB ?kD ?_ ?c2 ?c3 ?c4; (case kA => exact rfl); (case kF => exact rfl); (case kK => first | exact rfl | assumption); (case k1 => k_asm); (case k2 => k_asm); (case k3 => k_asm); (case k4 => exact N); (case kr1 => exact NR); (case kr2 => exact off); (case k5 => k_asm); (case k6 => k_is); (case k7 => k_is); (case k8 => ktr_room); (case k9 => first | exact BindsTo.of_eq rfl | exact binds_K (by k_in) rfl (by k_is) rfl rfl rfl); (case kB => exact rfl); (case kD => decide +kernel); (case c2 => exact rfl); (case c3 => exact rfl); (case c4 => exact rfl); k_whole; intro g' L' h' tk' cells' HB FG' F' N' Y' B' X' T' l1 LR; (try k_lt l1); k_cells Y'; (try simp only [List.cons_append, List.nil_append] at N'); (try dsimp only); (try k_lift B'); (try k_fold); refine fold_ae ?_; intro eK AK)
  have CH : CodeHd g' 108 104 := codeHd_of_K X' (by kernel_rfl)
  have CR : g'.CodeRec (.ref c') qI := coderec_hold hc HB hcn
  k_steps
  all_goals first
    | (exfalso; omega)
    | (unfold RestR; dsimp only; rename News _ _ _ _ => kN9; intro NR'; refine' hret _ _ _ _ _ ?ia ?f ?n NR' ?ne ?lt0; (case f => k_asm); (case n => k_dflt (exact cb_drop kN9 (SubL.mem (by k_subL)))); (case ia => k_dflt (first | exact .nil | exact .cons _ _ .nil | exact .cons _ _ (.cons _ _ .nil) | exact .cons _ _ (.cons _ _ (.cons _ _ .nil)) | exact .cons _ _ (.cons _ _ (.cons _ _ (.cons _ _ .nil))))); (case ne => exact fun p hp => Nat.lt_trans (LR p hp) (by omega)); (case lt0 => omega))
end Mine
end

section
open PySem PySem.W PyProof.Rows PySem.Spec PySem.Calls
set_option Elab.async false
set_option maxRecDepth 100000
namespace Mine
theorem kwn_DDa : True := by
  k_with_none
  trivial
theorem fillDDa : RW = RW ∧ KF = KF := by
  k_fill
  exact ⟨rfl, rfl⟩
set_option maxHeartbeats 0
set_option rowWalk.seconds 0
theorem d2iF {w : World} {l : Addr} {k0 k1 k2 k3 : Int} {t0 t1 t2 t3 u : Tok} {n : Nat} {mean : ExcName → Option Value} {mg mb : Str → Option Value} {dp un : Nat} {gd : Option (List Code)} {cn : Str} {cs : Scope} {a : Addr} {ccd : Value} {cl : List (Str × Addr)} {outer : List Env} {A₀ : Around} {base h₀ : Heap} {L : Addr} {m : Str → Option Value} {s : Shared} {Q E : Value → Shared → Prop} {rest : List (Addr × Obj)}
    (B : Below A₀ base outer h₀) (F : Fr h₀ L s.heap m) (X : (KF w.params).In h₀) (hl : @LT.lt Nat _ 111 l) (N : News h₀ L s.heap [(l, W.listOf #[.int k0 t0, .int k1 t1, .int k2 t2, .int k3 t3] n), (111, tabObj #[])]) (NR : News h₀ L s.heap rest) (off : ∀ p ∈ rest, p.1 ∉ [((l : Addr), W.listOf #[.int k0 t0, .int k1 t1, .int k2 t2, .int k3 t3] n), (111, tabObj #[])].map (·.1))
    (g0 : 0 ≤ k0) (g1 : 0 ≤ k1) (g2 : 0 ≤ k2) (g3 : 0 ≤ k3) (e0 : k0 < 4) (e1 : k1 < 4) (e2 : k2 < 4) (e3 : k3 < 4)
    (T : Top topProg LN mean mg mb h₀) (hk : cs.kind = .function) (hd : dp + 6 < recursionLimit) (hu : un + 48 < cLine)
    (hret : ∀ t h' tk' c' oc, CodeObj oc qD → Fr h₀ L h' m → News h₀ L h' [(111, tabObj (tabOf 34 4 c')), (c', oc)] → News h₀ L h' rest → (∀ p ∈ rest, @LT.lt Nat _ p.1 c') → @LT.lt Nat _ 111 c' → Q (.int (k0 + 4 * k1 + 16 * k2 + 64 * k3) t) { s with heap := h', toks := tk' }) :
    wpAny (model PW w) (ktrTop dp un gd cn cs L a ccd cl outer) (call (.ref 116) [.ref l, .int 2 u]) Q E s := by
  k_with_none
  k_with "call ref" => ((rename Below _ _ _ _ => lB'); (rename Fr _ _ _ _ => lF'); (rename News _ _ _ _ => lN'); (rename Frag.In _ _ => lX'); (rename Top _ _ _ _ _ _ => lT'); (k_dflt (refine' jn4 (i := 0) (D := l) (xs := [k0, k1, k2, k3]) lB' lF' lX' lN' lT' ?hA ?hf ?hke ?hd ?hcr (vs := [.int k0 t0, .int k1 t1, .int k2 t2, .int k3 t3]) (n := n) ?hR ⟨?f1, ?f2, ?f3, ?f4⟩ (.cons _ _ (.cons _ _ (.cons _ _ (.cons _ _ .nil)))) ?hs ?ea ?eb rfl rfl rfl rfl g0 e0 g1 e1 g2 e2 g3 e3 ?_; (case hA => exact rfl); (case hf => exact rfl); (case hke => exact rfl); (case hd => (show dp + 1 + _ < recursionLimit; omega)); (case hR => k_mem); (case f1 => exact ⟨_, _, _, by k_mem⟩); (case hcr => exact .inr ⟨_, by k_mem, _, _, by assumption, by assumption⟩); (case f2 => exact ⟨_, _, by k_mem, by assumption⟩); (case f3 => exact ⟨_, by k_mem, by assumption⟩); (case f4 => exact ⟨_, by k_mem, by assumption⟩); (case hs => exact Nat.le_of_ble_eq_true rfl); (case ea => exact rfl); (case eb => exact rfl))); intro t' h' tk' lF2 lN2; clear lF' lN')
  refine wpAny_call ?_
  k_dflt (refine' code_defCF (rest := rest) ?k1 ?k2 ?k3 ?k4 ?kr1 ?kr2 ?k5 ?kA ?kF ?kK ?k6 ?k7 ?k8 ?k9 ?kB ?kD ?_ ?c2 ?c3 ?c4; (case kA => exact rfl); (case kF => exact rfl); (case kK => first | exact rfl | assumption); (case k1 => k_asm); (case k2 => k_asm); (case k3 => k_asm); (case k4 => exact N); (case kr1 => exact NR); (case kr2 => exact off); (case k5 => k_asm); (case k6 => k_is); (case k7 => k_is); (case k8 => ktr_room); (case k9 => first | exact BindsTo.of_eq rfl | exact binds_K (by k_in) rfl (by k_is) rfl rfl rfl); (case kB => exact rfl); (case kD => decide +kernel); (case c2 => exact rfl); (case c3 => exact rfl); (case c4 => exact rfl); k_whole; intro g' L' h' tk' cells' HB FG' F' N' Y' B' X' T' l1 LR; (try k_lt l1); k_cells Y'; (try simp only [List.cons_append, List.nil_append] at N'); (try dsimp only); (try k_lift B'); (try k_fold); refine fold_ae ?_; intro eK AK)
  have CH : CodeHd g' 115 111 := codeHd_of_K X' (by kernel_rfl)
  k_steps
  all_goals first
    | (exfalso; omega)
    | (unfold RestR; dsimp only; rename News _ _ _ _ => kN9; intro NR'
       refine (?_ : ∀ x t, x = k0 + 4 * k1 + 16 * k2 + 64 * k3 → Q (.int x t) _) _ _ ?e
       · rintro x t rfl
         refine' hret _ _ _ _ _ ?co ?f ?n NR' ?ne ?lt; (case co => exact ⟨_, _, by assumption, by assumption⟩); (case f => k_asm); (case n => k_dflt (exact cb_drop kN9 (SubL.mem (by k_subL)))); (case ne => exact fun p hp => Nat.lt_trans (LR p hp) (by omega)); (case lt => omega)
       case e => show (k3 * 4 + k2) * 16 + (k1 * 4 + k0) = _; omega)
end Mine
end

section
open PySem PySem.W PyProof.Rows PySem.Spec PySem.Calls
set_option Elab.async false
set_option maxRecDepth 100000
namespace Mine
theorem kwn_DDb : True := by
  k_with_none
  trivial
theorem fillDDb : RW = RW ∧ KF = KF := by
  k_fill
  exact ⟨rfl, rfl⟩
set_option maxHeartbeats 0
set_option rowWalk.seconds 0
theorem d2iN {w : World} {c' : Addr} {l : Addr} {k0 k1 k2 k3 : Int} {t0 t1 t2 t3 u : Tok} {n : Nat} {mean : ExcName → Option Value} {mg mb : Str → Option Value} {dp un : Nat} {gd : Option (List Code)} {cn : Str} {cs : Scope} {a : Addr} {ccd : Value} {cl : List (Str × Addr)} {outer : List Env} {A₀ : Around} {base h₀ : Heap} {L : Addr} {m : Str → Option Value} {s : Shared} {Q E : Value → Shared → Prop} {rest : List (Addr × Obj)}
    (B : Below A₀ base outer h₀) (F : Fr h₀ L s.heap m) (X : (KF w.params).In h₀) (hl : @LT.lt Nat _ 111 l) (N : News h₀ L s.heap [(l, W.listOf #[.int k0 t0, .int k1 t1, .int k2 t2, .int k3 t3] n), (111, tabObj (tabOf 34 4 c'))]) (NR : News h₀ L s.heap rest) (off : ∀ p ∈ rest, p.1 ∉ [((l : Addr), W.listOf #[.int k0 t0, .int k1 t1, .int k2 t2, .int k3 t3] n), (111, tabObj (tabOf 34 4 c'))].map (·.1))
    (g0 : 0 ≤ k0) (g1 : 0 ≤ k1) (g2 : 0 ≤ k2) (g3 : 0 ≤ k3) (e0 : k0 < 4) (e1 : k1 < 4) (e2 : k2 < 4) (e3 : k3 < 4)
    (hc : s.heap.CodeRec (.ref c') qD) (hcn : @LT.lt Nat _ 111 c') (hcl : c' ≠ l) (T : Top topProg LN mean mg mb h₀) (hk : cs.kind = .function) (hd : dp + 6 < recursionLimit) (hu : un + 48 < cLine)
    (hret : ∀ t h' tk' , Fr h₀ L h' m → News h₀ L h' [(111, tabObj (tabOf 34 4 c'))] → News h₀ L h' rest → Q (.int (k0 + 4 * k1 + 16 * k2 + 64 * k3) t) { s with heap := h', toks := tk' }) :
    wpAny (model PW w) (ktrTop dp un gd cn cs L a ccd cl outer) (call (.ref 116) [.ref l, .int 2 u]) Q E s := by
  k_with_none
  k_with "call ref" => ((rename Below _ _ _ _ => lB'); (rename Fr _ _ _ _ => lF'); (rename News _ _ _ _ => lN'); (rename Frag.In _ _ => lX'); (rename Top _ _ _ _ _ _ => lT'); (k_dflt (refine' jn4 (i := 0) (D := l) (xs := [k0, k1, k2, k3]) lB' lF' lX' lN' lT' ?hA ?hf ?hke ?hd ?hcr (vs := [.int k0 t0, .int k1 t1, .int k2 t2, .int k3 t3]) (n := n) ?hR ⟨?f1, ?f2, ?f3, ?f4⟩ (.cons _ _ (.cons _ _ (.cons _ _ (.cons _ _ .nil)))) ?hs ?ea ?eb rfl rfl rfl rfl g0 e0 g1 e1 g2 e2 g3 e3 ?_; (case hA => exact rfl); (case hf => exact rfl); (case hke => exact rfl); (case hd => (show dp + 1 + _ < recursionLimit; omega)); (case hR => k_mem); (case f1 => exact ⟨_, _, _, by k_mem⟩); (case hcr => exact .inl (by assumption)); (case f2 => exact ⟨_, _, by k_mem, by assumption⟩); (case f3 => exact ⟨_, by k_mem, by assumption⟩); (case f4 => exact ⟨_, by k_mem, by assumption⟩); (case hs => exact Nat.le_of_ble_eq_true rfl); (case ea => exact rfl); (case eb => exact rfl))); intro t' h' tk' lF2 lN2; clear lF' lN')
  refine wpAny_call ?_
  k_dflt (refine' code_defCF (rest := rest) ?k1 ?k2 ?k3 ?k4 ?kr1 ?kr2 ?k5 ?kA ?kF ?kK ?k6 ?k7 ?k8 ?k9 ?kB ?kD ?_ ?c2 ?c3 ?c4; (case kA => exact rfl); (case kF => exact rfl); (case kK => first | exact rfl | assumption); (case k1 => k_asm); (case k2 => k_asm); (case k3 => k_asm); (case k4 => exact N); (case kr1 => exact NR); (case kr2 => exact off); (case k5 => k_asm); (case k6 => k_is); (case k7 => k_is); (case k8 => ktr_room); (case k9 => first | exact BindsTo.of_eq rfl | exact binds_K (by k_in) rfl (by k_is) rfl rfl rfl); (case kB => exact rfl); (case kD => decide +kernel); (case c2 => exact rfl); (case c3 => exact rfl); (case c4 => exact rfl); k_whole; intro g' L' h' tk' cells' HB FG' F' N' Y' B' X' T' l1 LR; (try k_lt l1); k_cells Y'; (try simp only [List.cons_append, List.nil_append] at N'); (try dsimp only); (try k_lift B'); (try k_fold); refine fold_ae ?_; intro eK AK)
  have CH : CodeHd g' 115 111 := codeHd_of_K X' (by kernel_rfl)
  have CR : g'.CodeRec (.ref c') qD := coderec_hold2 hc HB (by intro h; simp only [List.map_cons, List.map_nil, List.mem_cons, List.not_mem_nil, or_false] at h; rcases h with h | h; exact hcl h; subst h; exact absurd hcn (Nat.lt_irrefl _))
  k_steps
  all_goals first
    | (exfalso; omega)
    | (unfold RestR; dsimp only; rename News _ _ _ _ => kN9; intro NR'
       refine (?_ : ∀ x t, x = k0 + 4 * k1 + 16 * k2 + 64 * k3 → Q (.int x t) _) _ _ ?e
       · rintro x t rfl
         refine' hret _ _ _ ?f ?n NR'; (case f => k_asm); (case n => k_dflt (exact cb_drop kN9 (SubL.mem (by k_subL))))
       case e => show (k3 * 4 + k2) * 16 + (k1 * 4 + k0) = _; omega)
end Mine
end

section
open PySem PySem.W PyProof.Rows PySem.Spec PySem.Calls PyProof.V
set_option Elab.async false
set_option maxRecDepth 100000
namespace Mine
theorem kwn_AH : True := by
  k_with_none
  trivial
section
variable {rest : List (Addr × Obj)} {prog : Program} {w : World} {A₀ A : Around} {s : Shared} {base h₀ : Heap} {outer : List Env} {L : Addr} {m : Str → Option Value} {env : Env} {news : List (Addr × Obj)}
  {R : Result → Shared → Prop} {name qual : Str} {params : Arguments} {body : List Stmt} {scope : Scope} {cl : List (Str × Addr)} {dV kV doc pm cdv ct : Value} {an : Option Addr} {f : Addr} {args : Args} {binds : List (Str × Value)}
theorem kp_frameF {E : Value → Shared → Prop} (B : Below A₀ base outer h₀) (F : Fr h₀ L s.heap m) (N : News h₀ L s.heap news) (NR : News h₀ L s.heap rest) (off : ∀ p ∈ rest, p.1 ∉ news.map (·.1)) (hlim : h₀.NoLimit) (hA : A.frames = some (env :: outer)) (hf : env.frame = some L) (hke : env.scope.kind = .function)
    (hloc : ∀ y ∈ binds, scope.names.lookup y.1 = some .local)
    (h : ∀ g L' h₁, HoldsBut s.heap g news → Fr h₀ L g m → Fr g L' h₁ (fun y => binds.reverse.lookup y) → News g L' h₁ news → Below A base (env :: outer) g → h₀.StaysIn g →
      wpAny (model prog w) (A.deeper (envX qual scope L' f cdv cl)) (execs body (envX qual scope L' f cdv cl))
        (fun fl s' => LeaveK h₀ L m g (RestR h₀ L rest R) (match fl with | .ret v => v | _ => .none) s')
        (fun e s' => wpAny (model prog w) (A.deeper (envX qual scope L' f cdv cl)) (leaving (envX qual scope L' f cdv cl) e) (fun _ s'' => R (.error e) s'') (fun e' s'' => R (.error e') s'') s')
        { s with heap := h₁, toks := s.toks + binds.length })
    (hcell : ∀ x ∈ scope.names, x.2 ≠ .cell) (hk : scope.kind = .function) :
    wpAny (model prog w) A.in1 (newFunctionEnv scope mainGlobals cl binds (qual ++ ".<locals>.") (some f) cdv none builtinsNs) (fun env' s₂ => s₂.heap.NoLimit ∧ codeAny (model prog w) A (.func body env') R s₂) E s := by
  obtain ⟨FG, BG, st, lv⟩ := groundX (R := RestR h₀ L rest R) B F N hA hf hke
  refine wpAny_newFunctionEnv hcell hloc (fun h₁ hns hsb => ⟨(hlim.keeps F.keep).fresh _ hsb, codeAny_func ?_⟩) hk
  have hk₁ : ∀ b o, s.heap.get? b = some o → h₁.get? b = some o := fun b o e => hsb.extBut b o (Nat.ne_of_lt (Heap.lt_size e)) (Heap.get?_push_of_some _ e)
  show wpAny (model prog w) (A.deeper (envX qual scope s.heap.objs.size f cdv cl)) (execs body (envX qual scope s.heap.objs.size f cdv cl)) _ _ _
  exact wpAny_mono (h _ s.heap.objs.size h₁ (fun b o e q => hideAll_get _ e q) FG ⟨hns, fun b o e => hk₁ b o (of_hideAll _ e), Nat.le_of_eq (hideAll_size _ _)⟩
    (fun p hp => ⟨hk₁ _ _ (N p hp).1, Nat.ne_of_lt (Heap.lt_size (N p hp).1), hideAll_none _ (List.mem_map_of_mem hp)⟩) BG st) (fun fl s' hl => lv _ _ hl (let ⟨_, _, _, F', _, _⟩ := hl; rest_back (fun b o e q => hideAll_get _ e q) F' NR off)) fun _ _ y => y
end
section
variable {rest : List (Addr × Obj)} {prog : Program} {w : World} {A A₀ : Around} {s : Shared} {K : Frag} {L : Addr} {h₀ base : Heap} {m mg mb : Str → Option Value} {news : List (Addr × Obj)} {p : Program} {loose : List Str} {mean : ExcName → Option Value}
theorem kp_moreF {env : Env} {outer : List Env} {R : Result → Shared → Prop} {name qual : Str} {params : Arguments} {body : List Stmt} {scope : Scope} {dV kV doc pm cdv ct oc : Value} {an od : Option Addr} {osl : Array (Option Value)} {f : Addr} {args : Args} {nm : Str} {front : List (Str × Value)} {g₁ : Addr → Sem (List (Str × Value))}
    (B : Below A₀ base outer h₀) (F : Fr h₀ L s.heap m) (X₀ : K.In h₀) (N : News h₀ L s.heap news) (NR : News h₀ L s.heap rest) (off : ∀ p ∈ rest, p.1 ∉ news.map (·.1)) (T : Top p loose mean mg mb h₀) (hA : A.frames = some (env :: outer)) (hf : env.frame = some L) (hke : env.scope.kind = .function)
    (ho : K.lookup f = some ⟨oc, od, .func (W.fnOf name qual params body scope dV kV doc pm an cdv ct), osl⟩) (hcd : codeIn K cdv qual = true) (hroom : A.depth < recursionLimit)
    (_hnm : params.kwarg.map (·.arg) = some nm) (_hfr : peek K ⟨prog, w.params⟩ (bindArgs (fnCut (W.fnOf name qual params body scope dV kV doc pm an cdv ct)) (argsCut params args)) = some front)
    (hp : peekA K ⟨prog, w.params⟩ (bindArgs (W.fnOf name qual params body scope dV kV doc pm an cdv ct) args) = some (dictOf [] 0, g₁))
    (hk₁ : ∀ D, g₁ D = pure (front ++ [(nm, Value.ref D)]))
    (hloc : ∀ D, ∀ y ∈ front ++ [(nm, Value.ref D)], scope.names.lookup y.1 = some .local)
    (h : ∀ D o g L' h₁ tk, (∀ p ∈ news, p.1 < D) → (∀ p ∈ rest, p.1 < D) → (D == sysModules) = false → o.IsDictOf (strKind prog w) ([] : List (Str × Value)) → FlatPairs PyData.str ([] : List (Str × Value)) ([] : List (PyData × PyData)) → Fr h₀ L g m → Fr g L' h₁ (fun y => (front ++ [(nm, Value.ref D)]).reverse.lookup y) → News g L' h₁ ((D, o) :: news) → Below A base (env :: outer) g → K.In g → Top p loose mean mg mb g →
      wpAny (model prog w) (A.deeper (envOf qual scope L' f cdv)) (execs body (envOf qual scope L' f cdv))
        (fun fl s' => LeaveK h₀ L m g (RestR h₀ L rest R) (match fl with | .ret v => v | _ => .none) s')
        (fun e s' => wpAny (model prog w) (A.deeper (envOf qual scope L' f cdv)) (leaving (envOf qual scope L' f cdv) e) (fun _ s'' => R (.error e) s'') (fun e' s'' => R (.error e') s'') s')
        { s with heap := h₁, toks := tk })
    (hco : scope.isCoroutine = false) (hgen : scope.isGenerator = false) (hk : scope.kind = .function)
    (hcell : ∀ x ∈ scope.names, x.2 ≠ .cell) : codeAny (model prog w) A (.call (.ref f) args) R s := by
  refine codeAny_call_function (fd := W.fnOf name qual params body scope dV kV doc pm an cdv ct) (body := body) hroom ((X₀.keeps F.keep) _ _ ho) rfl hco hgen rfl (codeRec_of (X₀.keeps F.keep) hcd) ?_
  have NA : News h₀ L s.heap (news ++ rest) := fun p hp => (List.mem_append.mp hp).elim (N p) (NR p)
  refine wp_of_peekA (o := dictOf [] 0) F NA (X₀.keeps F.keep) rfl _ g₁ hp fun h' F' N' l => ?_
  rw [hk₁]
  refine wpAny_pure ?_
  have N1 : News h₀ L h' ((s.heap.objs.size, dictOf [] 0) :: news) := fun p hp => N' p ((List.mem_cons.mp hp).elim (fun e => e ▸ .head _) fun hp => .tail _ (List.mem_append_left _ hp))
  have N2 : News h₀ L h' rest := fun p hp => N' p (.tail _ (List.mem_append_right _ hp))
  exact kp_frameF (cl := []) (s := { s with heap := h', toks := s.toks }) B F' N1 N2 (fun p hp q => by
      rcases List.mem_cons.mp q with e | q
      · exact absurd (l p (List.mem_append_right _ hp)) (e ▸ Nat.lt_irrefl _)
      · exact off p hp q) T.nolimit hA hf hke (hloc _)
    (fun g L' h₁ _ FG FL NG BG st => h _ _ g L' h₁ _ (fun p hp => l p (List.mem_append_left _ hp)) (fun p hp => l p (List.mem_append_right _ hp)) (F.notModules (modules_low T.nolimit)) (kp_isDict (ex := []) s.toks 0 List.nodup_nil) FlatPairs.nil FG FL NG BG (X₀.keeps st) (T.keeps st)) hcell hk
end
theorem fillAH : RW = RW ∧ KF = KF := by
  k_fill
  exact ⟨rfl, rfl⟩
set_option maxHeartbeats 0
set_option rowWalk.seconds 0
noncomputable def PV (g : Int) (d : Int) : Str := if d = 0 then (if g = 1 then Str.ofString "p" else if g = 2 then Str.ofString "q" else Str.ofString "r") else (if g = 1 then Str.ofString "P" else if g = 2 then Str.ofString "Q" else Str.ofString "R")
theorem pkV {w : World} {g d : Int} {t : Tok} : peek (KF w.params) ⟨PW, w.params⟩ (Builtin.«re.Pattern.search» ⟨[.ref 138, .str (PV g d) t], []⟩) = some (.done (.ret .none)) := by
  unfold PV
  repeat' split
  all_goals exact pk_vl w t _ (by decide)
theorem pvl {g d : Int} : ([PV g d].map (·.length)).sum + [PV g d].length * (Str.ofString "; ").length ≤ 16777216 := by
  unfold PV
  repeat' split
  all_goals decide
noncomputable abbrev pgObj (dx : Addr) : Obj := ⟨.ref 269, some dx, .plain, #[]⟩
noncomputable abbrev pgDict (hs : Int) (tt : Tok) (l : Addr) : Obj := dictOf [⟨hs, .str (Str.ofString "_headers") tt, .ref l⟩] 1
noncomputable abbrev tup2 (x y : Value) : Obj := { cls := .type "tuple", data := .seq [x, y].toArray }
theorem join1 {w : World} {A : Around} {E : Value → Shared → Prop} {s : Shared} {D : Addr} {n : Nat} {sep : Str} {ts u : Tok} {g d : Int} {Q : Value → Shared → Prop} (hl : s.heap.IsList D #[.str (PV g d) u]) (h : ∀ t' k, Q (.str (PV g d) t') { s with toks := k }) :
    sep = Str.ofString "; " → wpAny (model PW w) A (call (.builtin "str.join") [.str sep ts, .ref D]) Q E s := by
  rintro rfl
  refine join_list hl (StrsAre.cons _ _ StrsAre.nil) (by show (List.map _ _).sum + _ ≤ _; exact pvl) fun t' k => ?_
  exact h t' k
theorem news_app {h₀ h : Heap} {L : Addr} {a b : List (Addr × Obj)} (x : News h₀ L h a) (y : News h₀ L h b) : News h₀ L h (a ++ b) := fun p hp => (List.mem_append.mp hp).elim (x p) (y p)
theorem addh {w : World} {pg dx l : Addr} {hs : Int} {tt : Tok} {its : Array Value} {n : Nat} {x : String} {tx tv : Tok} {g d : Int} {all r1 r2 : List (Addr × Obj)} {mean : ExcName → Option Value} {mg mb : Str → Option Value} {dp un : Nat} {gd : Option (List Code)} {cn : Str} {cs : Scope} {a : Addr} {ccd : Value} {cl : List (Str × Addr)} {outer : List Env} {A₀ : Around} {base h₀ : Heap} {L : Addr} {m : Str → Option Value} {s : Shared} {Q E : Value → Shared → Prop} {rest : List (Addr × Obj)}
    (B : Below A₀ base outer h₀) (F : Fr h₀ L s.heap m) (X : (KF w.params).In h₀) (N : News h₀ L s.heap all) (R1 : Rem (pg, pgObj dx) all r1) (R2 : Rem (dx, pgDict hs tt l) r1 r2) (R3 : Rem (l, W.listOf its n) r2 rest) (o3 : LCg.Off3 pg dx l rest)
    (lt1 : @LT.lt Nat _ pg l) (lt2 : @LT.lt Nat _ dx l) (hsz : its.size < 1000) (hx : x ∈ (["pf","pi","qf","qi","rf","ri","p.","q.","r.","Pf","PF","PI","QF","QI","RF","RI","P.","Q.","R."] : List String)) (T : Top topProg LN mean mg mb h₀) (hk : cs.kind = .function) (hd : dp + 4 < recursionLimit) (hu : un + 32 < cLine)
    (hret : ∀ tp n' t' h' tk', Fr h₀ L h' m → News h₀ L h' ((tp, tup2 (.str (Str.ofString x) tx) (.str (PV g d) t')) :: (pg, pgObj dx) :: (dx, pgDict hs tt l) :: (l, W.listOf (its.push (.ref tp)) n') :: rest) → (∀ p ∈ (pg, pgObj dx) :: (dx, pgDict hs tt l) :: (l, W.listOf (its.push (.ref tp)) n') :: rest, p.1 < tp) → Q .none { s with heap := h', toks := tk' }) :
    wpAny (model PW w) (ktrTop dp un gd cn cs L a ccd cl outer) (call (.ref 266) [.ref pg, .str (Str.ofString x) tx, .str (PV g d) tv]) Q E s := by
  have NR : News h₀ L s.heap rest := cb_drop N fun p hp => R1.sub _ (R2.sub _ (R3.sub _ hp))
  have N1 : News h₀ L s.heap [(pg, pgObj dx), (dx, pgDict hs tt l), (l, W.listOf its n)] := cb_drop N (SubL.mem ⟨R1.mem, R1.sub _ R2.mem, R1.sub _ (R2.sub _ R3.mem), trivial⟩)
  have off : ∀ p ∈ rest, p.1 ∉ [(pg, pgObj dx), (dx, pgDict hs tt l), (l, W.listOf its n)].map (·.1) := fun p hp q => by
    obtain ⟨a1, a2, a3⟩ := o3.mem p hp
    simp only [List.map_cons, List.map_nil, List.mem_cons, List.not_mem_nil, or_false] at q
    rcases q with q | q | q
    · exact a1 q
    · exact a2 q
    · exact a3 q
  k_with_none
  k_with "call ref" => (k_dflt (refine' use_W (conv_v _ _ _ ?hp) ?k1 ?k2 ?k3 ?k4 ?k5 ?kK ?kd ?ku ?_; (case hp => exact pkV); (case k1 => k_asm); (case k2 => k_asm); (case k3 => k_asm); (case k4 => k_asm); (case k5 => k_asm); (case kK => first | exact rfl | assumption); (case kd => ktr_room); (case ku => ktr_units)); intro t9 h9 tk9 F9 N9; (try dsimp only); (try k_fold))
  k_with "call ref" => (k_dflt (refine' use_W (conv_n _ _ _ ?hp) ?k1 ?k2 ?k3 ?k4 ?k5 ?kK ?kd ?ku ?_; (case hp => exact pk_n hx); (case k1 => k_asm); (case k2 => k_asm); (case k3 => k_asm); (case k4 => k_asm); (case k5 => k_asm); (case kK => first | exact rfl | assumption); (case kd => ktr_room); (case ku => ktr_units)); intro t9 h9 tk9 F9 N9; (try dsimp only); (try k_fold))
  k_with "call builtin:str.join" => (k_dflt (refine join1 (n := 0) (News.isList (by k_asm) (by k_mem)) ?_ rfl; intro t8 k8))
  refine wpAny_call ?_
  k_dflt (refine' kp_moreF (rest := rest) ?k1 ?k2 ?k3 ?k4 ?kr1 ?kr2 ?k5 ?kA ?kF ?kK ?k6 ?k7 ?k8 ?kM ?kR ?kP ?kT ?kB ?_ ?c2 ?c3 ?c4 ?c5; (case kA => exact rfl); (case kF => exact rfl); (case kK => first | exact rfl | assumption); (case k1 => k_asm); (case k2 => k_asm); (case k3 => k_asm); (case k4 => exact N1); (case kr1 => exact NR); (case kr2 => exact off); (case k5 => k_asm); (case k6 => k_is); (case k7 => k_is); (case k8 => ktr_room); (case kM => exact rfl); (case kR => exact rfl); (case kP => exact rfl); (case kT => exact fun _ => rfl); (case kB => exact fun _ => locs rfl); (case c5 => decide); (case c2 => exact rfl); (case c3 => exact rfl); (case c4 => exact rfl); k_whole; intro D' o' g' L' h' tk' l1 LR lo' hs' fs' FG' F' N' B' X' T'; (try k_lt l1); (try dsimp only); (try k_lift B'); (try k_fold))
  k_steps
  all_goals (unfold RestR; dsimp only; rename News _ _ _ _ => kN9; intro NR'; refine' hret _ _ _ _ _ ?f ?n ?lt)
  case f => k_asm
  case n => k_dflt (exact news_app (a := [_, _, _, _]) (cb_drop kN9 (SubL.mem (by k_subL))) NR')
  case lt => exact List.forall_mem_cons.mpr ⟨by (show @LT.lt Nat _ _ _); omega, List.forall_mem_cons.mpr ⟨by (show @LT.lt Nat _ _ _); omega, List.forall_mem_cons.mpr ⟨by (show @LT.lt Nat _ _ _); omega, fun p hp => Nat.lt_trans (LR p hp) (by omega)⟩⟩⟩
end Mine
end

section
open PySem PySem.W PyProof.Rows PySem.Spec PySem.Calls
set_option Elab.async false
set_option maxRecDepth 100000
namespace Mine
theorem kwn_HT : True := by
  k_with_none
  trivial
theorem fillHT : RW = RW ∧ KF = KF := by
  k_fill
  exact ⟨rfl, rfl⟩
set_option maxHeartbeats 0
set_option rowWalk.seconds 0
noncomputable def forT : Stmt → Option (PySem.Expr × List Stmt)
  | .For t _ b _ _ => some (t, b)
  | _ => none
noncomputable abbrev pgP : PySem.Expr × List Stmt := (⟨_, rfl⟩ : {x : PySem.Expr × List Stmt // (T24.body[1]?).bind forT = some x}).val
theorem ifx {w : World} {h₀ : Heap} {A : Around} {L : Addr} {m : Str → Option Value} {s : Shared} {news : List (Addr × Obj)} {g d : Int} {tg td : Tok} {Q E : Value → Shared → Prop} {k1 k2 : Nat} {p1 p2 p3 p4 p5 p6 p7 p8 : Pos}
  (X : (KF w.params).In h₀) (F : Fr h₀ L s.heap m) (N : News h₀ L s.heap news) (hm : m (Str.ofString "goal") = some (.int g tg)) (hn : m (Str.ofString "right") = some (.int d td)) (hg : 1 ≤ g ∧ g < 4) (hd : d = 0 ∨ d = 1)
  (q : ∀ t h' tk', Fr h₀ L h' m → News h₀ L h' news → Q (.str (PV g d) t) { s with heap := h', toks := tk' }) :
  wpAny (model PW w) A (eval (.IfExp (.Name (Str.ofString "right") p1) (.Subscript (.Constant (.str (Str.ofString "-PQR")) k1 p2) (.Name (Str.ofString "goal") p3) p4) (.Subscript (.Constant (.str (Str.ofString "-pqr")) k2 p5) (.Name (Str.ofString "goal") p6) p7) p8) (envOf (Str.ofString "_law_page") T24.scope L 299 (.ref 298))) Q E s := by
  have q' : ∀ x t h' tk', x = PV g d → Fr h₀ L h' m → News h₀ L h' news → Q (.str x t) { s with heap := h', toks := tk' } := by
    rintro _ t h' tk' rfl
    exact q t h' tk'
  obtain ⟨h1, h2⟩ := hg
  have hg : g = 1 ∨ g = 2 ∨ g = 3 := by omega
  clear h1 h2
  k_with_none
  k_with "eval Name" => (first | refine ld F hn ?_ rfl rfl | refine ld F hm ?_ rfl rfl)
  rcases hg with rfl | rfl | rfl <;> rcases hd with rfl | rfl
  all_goals k_steps
  all_goals exact q' _ _ _ _ (by decide +kernel) (by k_asm) (by k_asm)
theorem pturn {w : World} {mean : ExcName → Option Value} {mg mb : Str → Option Value} {dp un : Nat} {gd : Option (List Code)} {outer : List Env} {A₀ : Around} {base h₀ : Heap} {L : Addr} {m : Str → Option Value} {s : Shared} {E : Value → Shared → Prop} {K : Flow → Shared → Prop} {pg dx l b : Addr} {hs : Int} {tt : Tok} {its : Array Value} {n : Nat} {x : String} {tx gt dt : Tok} {g d : Int} {all r1 r2 R : List (Addr × Obj)}
    (B : Below A₀ base outer h₀) (F : Fr h₀ L s.heap m) (X : (KF w.params).In h₀) (N : News h₀ L s.heap all) (R1 : Rem (pg, pgObj dx) all r1) (R2 : Rem (dx, pgDict hs tt l) r1 r2) (R3 : Rem (l, W.listOf its n) r2 R) (o3 : LCg.Off3 pg dx l R)
    (lt1 : @LT.lt Nat _ pg l) (lt2 : @LT.lt Nat _ dx l) (hsz : its.size < 1000) (hx : x ∈ (["pf","pi","qf","qi","rf","ri","p.","q.","r.","Pf","PF","PI","QF","QI","RF","RI","P.","Q.","R."] : List String)) (T : Top topProg LN mean mg mb h₀) (hd : dp + 6 < recursionLimit) (hu : un + 48 < cLine)
    (hm : m (Str.ofString "page") = some (.ref pg)) (hb : IsTup s.heap b #[.str (Str.ofString x) tx, .int g gt, .int d dt]) (hg : 1 ≤ g ∧ g < 4) (hdd : d = 0 ∨ d = 1)
    (kk : ∀ tp' n' t' h' tk', Fr h₀ L h' (fun y => if y = Str.ofString "right" then some (.int d dt) else if y = Str.ofString "goal" then some (.int g gt) else if y = Str.ofString "name" then some (.str (Str.ofString x) tx) else m y) → News h₀ L h' ((tp', tup2 (.str (Str.ofString x) tx) (.str (PV g d) t')) :: (pg, pgObj dx) :: (dx, pgDict hs tt l) :: (l, W.listOf (its.push (.ref tp')) n') :: R) → (∀ p ∈ (pg, pgObj dx) :: (dx, pgDict hs tt l) :: (l, W.listOf (its.push (.ref tp')) n') :: R, p.1 < tp') → K .next { s with heap := h', toks := tk' }) :
    wpAny (model PW w) (ktrTop dp un gd (Str.ofString "_law_page") T24.scope L 299 (.ref 298) [] outer) (assign pgP.1 (envOf (Str.ofString "_law_page") T24.scope L 299 (.ref 298)) (.ref b)) (fun _ s₂ => wpAny (model PW w) (ktrTop dp un gd (Str.ofString "_law_page") T24.scope L 299 (.ref 298) [] outer) (execs pgP.2 (envOf (Str.ofString "_law_page") T24.scope L 299 (.ref 298))) K E s₂) E s := by
  have N0 : News h₀ L s.heap ((pg, pgObj dx) :: (dx, pgDict hs tt l) :: (l, W.listOf its n) :: R) := cb_drop N fun p hp => by
    rcases List.mem_cons.mp hp with rfl | hp
    · exact R1.mem
    rcases List.mem_cons.mp hp with rfl | hp
    · exact R1.sub _ R2.mem
    rcases List.mem_cons.mp hp with rfl | hp
    · exact R1.sub _ (R2.sub _ R3.mem)
    · exact R1.sub _ (R2.sub _ (R3.sub _ hp))
  clear N
  dsimp only [pgP]
  refine assign_Tuple_tuple rfl hb rfl rfl fun h₁ e₁ => ?_
  have up : ∀ b o, s.heap.get? b = some o → h₁.get? b = some o := fun b o e => e₁ b o (Nat.ne_of_lt (Heap.lt_size e)) e
  have F1 : Fr h₀ L h₁ m := F.keeps up
  have N1 : News h₀ L h₁ ((pg, pgObj dx) :: (dx, pgDict hs tt l) :: (l, W.listOf its n) :: R) := fun p hp => ⟨up _ _ (N0 p hp).1, (N0 p hp).2⟩
  clear N0 F hb R1 R2 R3
  refine assignInOrder_cons (wpAny_assign_Name (stN F1 N1 (fun h₂ F2 N2 => ?_) rfl rfl))
  refine assignInOrder_cons (wpAny_assign_Name (stN F2 N2 (fun h₃ F3 N3 => ?_) rfl rfl))
  refine assignInOrder_cons (wpAny_assign_Name (stN F3 N3 (fun h₄ F4 N4 => ?_) rfl rfl))
  refine assignInOrder_nil ?_
  clear F1 N1 F2 N2 F3 N3
  k_with_none
  k_with "eval IfExp" => ((with_reducible show wpAny _ _ (eval (Expr.IfExp (Expr.Name _ _) (Expr.Subscript _ _ _) _ _) _) _ _ _); (rename Fr _ _ _ _ => lF'); (rename News _ _ _ _ => lN'); (rename Frag.In _ _ => lX'); (k_dflt (refine' ifx lX' lF' lN' ?hm ?hn ?hg ?hd ?_; (case hm => exact rfl); (case hn => exact rfl); (case hg => assumption); (case hd => assumption))); intro t9 h9 tk9 F9 N9)
  k_with "call ref" => (k_dflt (refine' addh ?k1 ?k2 ?k3 ?k4 ?r1 ?r2 ?r3 ?o3 ?lt1 ?lt2 ?hsz ?hx ?k5 ?kK ?kd ?ku ?_; (case k1 => k_asm); (case k2 => k_asm); (case k3 => k_asm); (case k4 => k_asm); (case k5 => k_asm); (case r1 => repeat (first | exact Rem.head | apply Rem.tail)); (case r2 => repeat (first | exact Rem.head | apply Rem.tail)); (case r3 => repeat (first | exact Rem.head | apply Rem.tail)); (case o3 => exact o3); (case lt1 => exact lt1); (case lt2 => exact lt2); (case hsz => exact hsz); (case hx => exact hx); (case kK => first | exact rfl | assumption); (case kd => ktr_room); (case ku => ktr_units)); intro tp9 n9 t9 h9 tk9 F9 N9 l9; (try k_sweep); (try dsimp only); (try k_fold))
  k_with "eval Name" => (k_dflt (refine ld F4 ((if_neg (by decide +kernel)).trans ((if_neg (by decide +kernel)).trans ((if_neg (by decide +kernel)).trans hm))) ?_ rfl rfl))
  k_steps
  all_goals exact kk _ _ _ _ _ (by k_asm) (by k_asm) (by assumption)
end Mine
end

section
open PySem PySem.W PyProof.Rows PySem.Spec PySem.Calls PyProof.V
open PyProof.Rows.LCg (NsObj Off3 Off1 lst ns_obj fr_but news_but lst_snoc)
set_option Elab.async false
set_option maxRecDepth 100000
namespace Mine
theorem kwn_HU : True := by
  k_with_none
  trivial
noncomputable abbrev PItem := Addr × String × Tok × Int × Tok × Int × Tok
noncomputable def itTup (p : PItem) : Addr × Obj := (p.1, { cls := .type "tuple", data := .seq [.str (Str.ofString p.2.1) p.2.2.1, .int p.2.2.2.1 p.2.2.2.2.1, .int p.2.2.2.2.2.1 p.2.2.2.2.2.2].toArray })
noncomputable def itOk (p : PItem) : Prop := p.2.1 ∈ (["pf","pi","qf","qi","rf","ri","p.","q.","r.","Pf","PF","PI","QF","QI","RF","RI","P.","Q.","R."] : List String) ∧ (1 ≤ p.2.2.2.1 ∧ p.2.2.2.1 < 4) ∧ (p.2.2.2.2.2.1 = 0 ∨ p.2.2.2.2.2.1 = 1)
noncomputable def madeT : List PItem → List (Addr × Tok) → List (Addr × Obj)
  | p :: ps, q :: qs => (q.1, tup2 (.str (Str.ofString p.2.1) p.2.2.1) (.str (PV p.2.2.2.1 p.2.2.2.2.2.1) q.2)) :: madeT ps qs
  | _, _ => []
/-- the loop of _law_page, whatever else stands on the ledger -/
theorem page_rest {w : World} {mean : ExcName → Option Value} {mg mb : Str → Option Value} {dp un : Nat} {gd : Option (List Code)} {outer : List Env} {A₀ : Around} {base h₀ : Heap} {L : Addr} {s : Shared} {E : Value → Shared → Prop} {Q : Flow → Shared → Prop} {pg dx l rl I : Addr} {rlo : Obj} {hs : Int} {tt : Tok}
    (B : Below A₀ base outer h₀) (X : (KF w.params).In h₀) (T : Top topProg LN mean mg mb h₀) (hd : dp + 6 < recursionLimit) (hu : un + 48 < cLine) (lt1 : @LT.lt Nat _ pg l) (lt2 : @LT.lt Nat _ dx l) (hI : pg ≠ I ∧ dx ≠ I ∧ l ≠ I) :
    ∀ (items : List PItem) (m : Str → Option Value) (its : Array Value) (n : Nat) (R : List (Addr × Obj)), (∀ p ∈ items, itOk p ∧ itTup p ∈ R) → its.size + items.length < 1000 → (rl, rlo) ∈ R → m (Str.ofString "page") = some (.ref pg) → Off3 pg dx l R → (∀ p ∈ R, p.1 ≠ I) → (∀ (as : List (Addr × Tok)) m' n' h tk (R' : List (Addr × Obj)), as.length = items.length → (∀ q ∈ madeT items as, q ∈ R') → (∀ q ∈ R, q ∈ R') → Fr h₀ L h m' → m' (Str.ofString "page") = some (.ref pg) → News h₀ L h ((pg, pgObj dx) :: (dx, pgDict hs tt l) :: (l, W.listOf (its ++ (as.map fun q => Value.ref q.1).toArray) n') :: R') → Q .next { s with heap := h, toks := tk }) →
      ItemsRest PW w (ktrTop dp un gd (Str.ofString "_law_page") T24.scope L 299 (.ref 298) [] outer) E h₀ (envOf (Str.ofString "_law_page") T24.scope L 299 (.ref 298)) pgP.1 pgP.2 Q s [(I, "list_iterator")] [(rl, rlo)] (items.map fun p => Itm.val (.ref p.1)) m ((pg, pgObj dx) :: (dx, pgDict hs tt l) :: (l, W.listOf its n) :: R)
  | [], m, its, n, R, _, _, _, hm, _, _, fin => ItemsRest.zero fun h tk F N => fin [] m n h tk R rfl (fun _ h => nomatch h) (fun _ h => h) F hm (by (have N' : News h₀ L h _ := N); simpa using N')
  | (b, x, tx, g, gt, d, dt) :: items, m, its, n, R, hok, hsz, hrl, hm, o3, hRI, fin => by
    refine ItemsRest.val fun h tk F => AllObj.cons fun o ho => AllObj.nil fun N => ?_
    obtain ⟨⟨hx, hg, hdd⟩, hmem⟩ := hok _ (.head _)
    simp only [List.length_cons] at hsz
    have hb : IsTup h b #[.str (Str.ofString x) tx, .int g gt, .int d dt] := ⟨_, (N _ (.tail _ (.tail _ (.tail _ (.tail _ hmem))))).1, rfl, _, rfl⟩
    refine pturn (m := m) (s := { s with heap := h, toks := tk }) B F X N (.tail .head) (.tail .head) (.tail .head) ⟨⟨Ne.symm hI.1, Ne.symm hI.2.1, Ne.symm hI.2.2⟩, o3⟩ lt1 lt2 (by omega) hx T hd hu hm hb hg hdd fun tp n' t' h' tk' F' N' l' => ?_
    have hp1 : @LT.lt Nat _ pg tp := l' _ (.head _)
    have hp2 : @LT.lt Nat _ dx tp := l' _ (.tail _ (.head _))
    have hp3 : @LT.lt Nat _ l tp := l' _ (.tail _ (.tail _ (.head _)))
    have hpI : @LT.lt Nat _ I tp := l' _ (.tail _ (.tail _ (.tail _ (.head _))))
    refine ⟨h', tk', _, (pg, pgObj dx) :: (dx, pgDict hs tt l) :: (l, W.listOf (its.push (.ref tp)) n') :: (tp, tup2 (.str (Str.ofString x) tx) (.str (PV g d) t')) :: R, rfl, F', fun p hp => ?_, fun p hp q hq => ?_, ⟨?_, trivial⟩, ?_⟩
    · rcases List.mem_cons.mp hp with rfl | hp
      · exact N' _ (.tail _ (.tail _ (.tail _ (.tail _ (.head _)))))
      rcases List.mem_cons.mp hp with rfl | hp
      · exact N' _ (.tail _ (.head _))
      rcases List.mem_cons.mp hp with rfl | hp
      · exact N' _ (.tail _ (.tail _ (.head _)))
      rcases List.mem_cons.mp hp with rfl | hp
      · exact N' _ (.tail _ (.tail _ (.tail _ (.head _))))
      rcases List.mem_cons.mp hp with rfl | hp
      · exact N' _ (.head _)
      · exact N' _ (.tail _ (.tail _ (.tail _ (.tail _ (.tail _ hp)))))
    · rw [List.mem_singleton.mp hq]
      rcases List.mem_cons.mp hp with rfl | hp
      · exact hI.1
      rcases List.mem_cons.mp hp with rfl | hp
      · exact hI.2.1
      rcases List.mem_cons.mp hp with rfl | hp
      · exact hI.2.2
      rcases List.mem_cons.mp hp with rfl | hp
      · exact Ne.symm (Nat.ne_of_lt hpI)
      · exact hRI p hp
    · exact .tail _ (.tail _ (.tail _ (.tail _ hrl)))
    · refine page_rest B X T hd hu lt1 lt2 hI items _ (its.push (.ref tp)) n' _ (fun p hp => ⟨(hok p (.tail _ hp)).1, .tail _ (hok p (.tail _ hp)).2⟩) (by rw [Array.size_push]; omega) (.tail _ hrl) ?_ ⟨⟨Ne.symm (Nat.ne_of_lt hp1), Ne.symm (Nat.ne_of_lt hp2), Ne.symm (Nat.ne_of_lt hp3)⟩, o3⟩ (fun p hp => ?_) fun as m' n'' h tk R' hl hin hsub F N hm' => ?_
      · rw [if_neg (by decide +kernel), if_neg (by decide +kernel), if_neg (by decide +kernel)]; exact hm
      · rcases List.mem_cons.mp hp with rfl | hp
        · exact Ne.symm (Nat.ne_of_lt hpI)
        · exact hRI p hp
      · refine fin ((tp, t') :: as) m' n'' h tk R' (by simp [hl]) (fun q hq => ?_) (fun q hq => hsub q (.tail _ hq)) F N (by simpa using hm')
        rcases List.mem_cons.mp hq with rfl | hq
        · exact hsub _ (.head _)
        · exact hin q hq
theorem page_loop {w : World} {mean : ExcName → Option Value} {mg mb : Str → Option Value} {dp un : Nat} {gd : Option (List Code)} {outer : List Env} {A₀ : Around} {base h₀ : Heap} {L : Addr} {s : Shared} {m : Str → Option Value} {E : Value → Shared → Prop} {Q : Flow → Shared → Prop} {pg dx l rl : Addr} {hs : Int} {tt : Tok} {rn n : Nat} {all r1 r2 R : List (Addr × Obj)} (items : List PItem)
    (B : Below A₀ base outer h₀) (X : (KF w.params).In h₀) (T : Top topProg LN mean mg mb h₀) (hd : dp + 6 < recursionLimit) (hu : un + 48 < cLine) (F : Fr h₀ L s.heap m) (N : News h₀ L s.heap all) (R1 : Rem (pg, pgObj dx) all r1) (R2 : Rem (dx, pgDict hs tt l) r1 r2) (R3 : Rem (l, W.listOf #[] n) r2 R) (o3 : Off3 pg dx l R) (lt1 : @LT.lt Nat _ pg l) (lt2 : @LT.lt Nat _ dx l)
    (hok : ∀ p ∈ items, itOk p ∧ itTup p ∈ R) (hl : items.length < 1000) (hrl : (rl, W.listOf (items.map fun p => Value.ref p.1).toArray rn) ∈ R) (hm : m (Str.ofString "page") = some (.ref pg))
    (fin : ∀ (as : List (Addr × Tok)) m' n' h tk (R' : List (Addr × Obj)), as.length = items.length → (∀ q ∈ madeT items as, q ∈ R') → (∀ q ∈ R, q ∈ R') → Fr h₀ L h m' → m' (Str.ofString "page") = some (.ref pg) → News h₀ L h ((pg, pgObj dx) :: (dx, pgDict hs tt l) :: (l, W.listOf (as.map fun q => Value.ref q.1).toArray n') :: R') → Q .next { s with heap := h, toks := tk }) :
    wpAny (model PW w) (ktrTop dp un gd (Str.ofString "_law_page") T24.scope L 299 (.ref 298) [] outer) (pyIter (.ref rl)) (fun it s₂ => TurnsAt PW w (ktrTop dp un gd (Str.ofString "_law_page") T24.scope L 299 (.ref 298) [] outer) h₀ (envOf (Str.ofString "_law_page") T24.scope L 299 (.ref 298)) pgP.1 pgP.2 Q E it s₂) E s := by
  have N0 : News h₀ L s.heap ((pg, pgObj dx) :: (dx, pgDict hs tt l) :: (l, W.listOf #[] n) :: R) := cb_drop N fun p hp => by
    rcases List.mem_cons.mp hp with rfl | hp
    · exact R1.mem
    rcases List.mem_cons.mp hp with rfl | hp
    · exact R1.sub _ R2.mem
    rcases List.mem_cons.mp hp with rfl | hp
    · exact R1.sub _ (R2.sub _ R3.mem)
    · exact R1.sub _ (R2.sub _ (R3.sub _ hp))
  refine iter_listTurns (m₀ := m) (vs := items.map fun p => Value.ref p.1) rfl F N0 (.tail _ (.tail _ (.tail _ hrl))) rfl rfl fun I hI => ?_
  rw [List.map_map]
  exact page_rest B X T hd hu lt1 lt2 ⟨Nat.ne_of_lt (hI _ (.head _)), Nat.ne_of_lt (hI _ (.tail _ (.head _))), Nat.ne_of_lt (hI _ (.tail _ (.tail _ (.head _))))⟩ items m #[] n R hok (by simpa using hl) hrl hm o3 (fun p hp => Nat.ne_of_lt (hI _ (.tail _ (.tail _ (.tail _ hp))))) fun as m' n' h tk R' e1 e2 e3 F' hm' N' => fin as m' n' h tk R' e1 e2 e3 F' hm' (by simpa using N')
end Mine
end

section
open PySem PySem.W PyProof.Rows PySem.Spec PySem.Calls
set_option Elab.async false
set_option maxRecDepth 100000
namespace Mine
theorem kwn_HP : True := by
  k_with_none
  trivial
theorem fillHP : RW = RW ∧ KF = KF := by
  k_fill
  exact ⟨rfl, rfl⟩
set_option maxHeartbeats 0
set_option rowWalk.seconds 0
theorem onemore {as : List (Addr × Tok)} {n : Nat} (h : as.length = n + 1) : ∃ q r, as = q :: r ∧ r.length = n := by
  cases as with
  | nil => cases h
  | cons q r => exact ⟨q, r, rfl, Nat.succ.inj h⟩
theorem nine {as : List (Addr × Tok)} (h : as.length = 9) : ∃ q0 q1 q2 q3 q4 q5 q6 q7 q8, as = [q0, q1, q2, q3, q4, q5, q6, q7, q8] :=
  have ⟨q0, r0, e0, h0⟩ := onemore h
  have ⟨q1, r1, e1, h1⟩ := onemore h0
  have ⟨q2, r2, e2, h2⟩ := onemore h1
  have ⟨q3, r3, e3, h3⟩ := onemore h2
  have ⟨q4, r4, e4, h4⟩ := onemore h3
  have ⟨q5, r5, e5, h5⟩ := onemore h4
  have ⟨q6, r6, e6, h6⟩ := onemore h5
  have ⟨q7, r7, e7, h7⟩ := onemore h6
  have ⟨q8, r8, e8, h8⟩ := onemore h7
  ⟨q0, q1, q2, q3, q4, q5, q6, q7, q8, by rw [e0, e1, e2, e3, e4, e5, e6, e7, e8, List.eq_nil_of_length_eq_zero h8]⟩
theorem rest_offHP {h g h' h₀ : Heap} {L L' : Addr} {news rest nx led : List (Addr × Obj)} (HB : HoldsBut h g news) (NR : News h₀ L h rest) (off : ∀ p ∈ rest, p.1 ∉ news.map (·.1)) (N : News g L' h' nx) (sub : ∀ q ∈ led, q ∈ nx) : ∀ p ∈ rest, ∀ q ∈ led, q.1 ≠ p.1 := fun p hp q hq e => by
  have := HB _ _ (NR p hp).1 (off p hp)
  rw [← e, (N q (sub q hq)).2.2] at this; cases this
theorem page_ok {w : World} {rn : Nat} {rl : Addr} {b0 b1 b2 b3 b4 b5 b6 b7 b8 : Addr} {r0 r1 r2 r3 r4 r5 r6 r7 r8 : Tok} {gt0 gt1 gt2 gt3 gt4 gt5 gt6 gt7 gt8 rt0 rt1 rt2 rt3 rt4 rt5 rt6 rt7 rt8 : Tok} {g0 g1 g2 g3 g4 g5 g6 g7 g8 d0 d1 d2 d3 d4 d5 d6 d7 d8 : Int} {nu : Addr} {nus : Array Value} {nn : Nat} {q1 q2 : Array Value} {mean : ExcName → Option Value} {mg mb : Str → Option Value} {dp un : Nat} {gd : Option (List Code)} {cn : Str} {cs : Scope} {a : Addr} {ccd : Value} {cl : List (Str × Addr)} {outer : List Env} {A₀ : Around} {base h₀ : Heap} {L : Addr} {m : Str → Option Value} {s : Shared} {Q E : Value → Shared → Prop} {rest : List (Addr × Obj)}
    (hg0 : 1 ≤ g0 ∧ g0 < 4) (hd0 : d0 = 0 ∨ d0 = 1) (hg1 : 1 ≤ g1 ∧ g1 < 4) (hd1 : d1 = 0 ∨ d1 = 1) (hg2 : 1 ≤ g2 ∧ g2 < 4) (hd2 : d2 = 0 ∨ d2 = 1) (hg3 : 1 ≤ g3 ∧ g3 < 4) (hd3 : d3 = 0 ∨ d3 = 1) (hg4 : 1 ≤ g4 ∧ g4 < 4) (hd4 : d4 = 0 ∨ d4 = 1) (hg5 : 1 ≤ g5 ∧ g5 < 4) (hd5 : d5 = 0 ∨ d5 = 1) (hg6 : 1 ≤ g6 ∧ g6 < 4) (hd6 : d6 = 0 ∨ d6 = 1) (hg7 : 1 ≤ g7 ∧ g7 < 4) (hd7 : d7 = 0 ∨ d7 = 1) (hg8 : 1 ≤ g8 ∧ g8 < 4) (hd8 : d8 = 0 ∨ d8 = 1)
    (B : Below A₀ base outer h₀) (F : Fr h₀ L s.heap m) (X : (KF w.params).In h₀) (N : News h₀ L s.heap [(rl, W.listOf #[.ref b0, .ref b1, .ref b2, .ref b3, .ref b4, .ref b5, .ref b6, .ref b7, .ref b8] rn), (b0, ({ cls := .type "tuple", data := .seq [.str (Str.ofString "pf") r0, .int g0 gt0, .int d0 rt0].toArray } : Obj)), (b1, ({ cls := .type "tuple", data := .seq [.str (Str.ofString "pi") r1, .int g1 gt1, .int d1 rt1].toArray } : Obj)), (b2, ({ cls := .type "tuple", data := .seq [.str (Str.ofString "qf") r2, .int g2 gt2, .int d2 rt2].toArray } : Obj)), (b3, ({ cls := .type "tuple", data := .seq [.str (Str.ofString "qi") r3, .int g3 gt3, .int d3 rt3].toArray } : Obj)), (b4, ({ cls := .type "tuple", data := .seq [.str (Str.ofString "rf") r4, .int g4 gt4, .int d4 rt4].toArray } : Obj)), (b5, ({ cls := .type "tuple", data := .seq [.str (Str.ofString "ri") r5, .int g5 gt5, .int d5 rt5].toArray } : Obj)), (b6, ({ cls := .type "tuple", data := .seq [.str (Str.ofString "p.") r6, .int g6 gt6, .int d6 rt6].toArray } : Obj)), (b7, ({ cls := .type "tuple", data := .seq [.str (Str.ofString "q.") r7, .int g7 gt7, .int d7 rt7].toArray } : Obj)), (b8, ({ cls := .type "tuple", data := .seq [.str (Str.ofString "r.") r8, .int g8 gt8, .int d8 rt8].toArray } : Obj)), (nu, W.listOf nus nn), (104, tabObj q1), (111, tabObj q2)]) (NR : News h₀ L s.heap rest) (off : ∀ p ∈ rest, p.1 ∉ ([(rl, W.listOf #[.ref b0, .ref b1, .ref b2, .ref b3, .ref b4, .ref b5, .ref b6, .ref b7, .ref b8] rn), (b0, ({ cls := .type "tuple", data := .seq [.str (Str.ofString "pf") r0, .int g0 gt0, .int d0 rt0].toArray } : Obj)), (b1, ({ cls := .type "tuple", data := .seq [.str (Str.ofString "pi") r1, .int g1 gt1, .int d1 rt1].toArray } : Obj)), (b2, ({ cls := .type "tuple", data := .seq [.str (Str.ofString "qf") r2, .int g2 gt2, .int d2 rt2].toArray } : Obj)), (b3, ({ cls := .type "tuple", data := .seq [.str (Str.ofString "qi") r3, .int g3 gt3, .int d3 rt3].toArray } : Obj)), (b4, ({ cls := .type "tuple", data := .seq [.str (Str.ofString "rf") r4, .int g4 gt4, .int d4 rt4].toArray } : Obj)), (b5, ({ cls := .type "tuple", data := .seq [.str (Str.ofString "ri") r5, .int g5 gt5, .int d5 rt5].toArray } : Obj)), (b6, ({ cls := .type "tuple", data := .seq [.str (Str.ofString "p.") r6, .int g6 gt6, .int d6 rt6].toArray } : Obj)), (b7, ({ cls := .type "tuple", data := .seq [.str (Str.ofString "q.") r7, .int g7 gt7, .int d7 rt7].toArray } : Obj)), (b8, ({ cls := .type "tuple", data := .seq [.str (Str.ofString "r.") r8, .int g8 gt8, .int d8 rt8].toArray } : Obj)), (nu, W.listOf nus nn), (104, tabObj q1), (111, tabObj q2)] : List (Addr × Obj)).map (·.1)) (T : Top topProg LN mean mg mb h₀) (hk : cs.kind = .function) (hd : dp + 8 < recursionLimit) (hu : un + 64 < cLine)
    (hret : ∀ (ln : Nat) (pg dx l : Addr) (hs : Int) (tt : Tok) (a0 a1 a2 a3 a4 a5 a6 a7 a8 : Addr) (u0 u1 u2 u3 u4 u5 u6 u7 u8 : Tok) (h' : Heap) (tk' : Nat), Fr h₀ L h' m → News h₀ L h' [(pg, (⟨.ref 269, some dx, .plain, #[]⟩ : Obj)), (dx, dictOf [⟨hs, .str (Str.ofString "_headers") tt, .ref l⟩] 1), (l, W.listOf #[.ref a0, .ref a1, .ref a2, .ref a3, .ref a4, .ref a5, .ref a6, .ref a7, .ref a8] ln), (a0, ({ cls := .type "tuple", data := .seq [.str (Str.ofString "pf") r0, .str (PV g0 d0) u0].toArray } : Obj)), (a1, ({ cls := .type "tuple", data := .seq [.str (Str.ofString "pi") r1, .str (PV g1 d1) u1].toArray } : Obj)), (a2, ({ cls := .type "tuple", data := .seq [.str (Str.ofString "qf") r2, .str (PV g2 d2) u2].toArray } : Obj)), (a3, ({ cls := .type "tuple", data := .seq [.str (Str.ofString "qi") r3, .str (PV g3 d3) u3].toArray } : Obj)), (a4, ({ cls := .type "tuple", data := .seq [.str (Str.ofString "rf") r4, .str (PV g4 d4) u4].toArray } : Obj)), (a5, ({ cls := .type "tuple", data := .seq [.str (Str.ofString "ri") r5, .str (PV g5 d5) u5].toArray } : Obj)), (a6, ({ cls := .type "tuple", data := .seq [.str (Str.ofString "p.") r6, .str (PV g6 d6) u6].toArray } : Obj)), (a7, ({ cls := .type "tuple", data := .seq [.str (Str.ofString "q.") r7, .str (PV g7 d7) u7].toArray } : Obj)), (a8, ({ cls := .type "tuple", data := .seq [.str (Str.ofString "r.") r8, .str (PV g8 d8) u8].toArray } : Obj)), (nu, W.listOf nus nn), (104, tabObj q1), (111, tabObj q2)] → News h₀ L h' rest → (∀ p ∈ rest, ∀ q ∈ ([(pg, (⟨.ref 269, some dx, .plain, #[]⟩ : Obj)), (dx, dictOf [⟨hs, .str (Str.ofString "_headers") tt, .ref l⟩] 1), (l, W.listOf #[.ref a0, .ref a1, .ref a2, .ref a3, .ref a4, .ref a5, .ref a6, .ref a7, .ref a8] ln), (a0, ({ cls := .type "tuple", data := .seq [.str (Str.ofString "pf") r0, .str (PV g0 d0) u0].toArray } : Obj)), (a1, ({ cls := .type "tuple", data := .seq [.str (Str.ofString "pi") r1, .str (PV g1 d1) u1].toArray } : Obj)), (a2, ({ cls := .type "tuple", data := .seq [.str (Str.ofString "qf") r2, .str (PV g2 d2) u2].toArray } : Obj)), (a3, ({ cls := .type "tuple", data := .seq [.str (Str.ofString "qi") r3, .str (PV g3 d3) u3].toArray } : Obj)), (a4, ({ cls := .type "tuple", data := .seq [.str (Str.ofString "rf") r4, .str (PV g4 d4) u4].toArray } : Obj)), (a5, ({ cls := .type "tuple", data := .seq [.str (Str.ofString "ri") r5, .str (PV g5 d5) u5].toArray } : Obj)), (a6, ({ cls := .type "tuple", data := .seq [.str (Str.ofString "p.") r6, .str (PV g6 d6) u6].toArray } : Obj)), (a7, ({ cls := .type "tuple", data := .seq [.str (Str.ofString "q.") r7, .str (PV g7 d7) u7].toArray } : Obj)), (a8, ({ cls := .type "tuple", data := .seq [.str (Str.ofString "r.") r8, .str (PV g8 d8) u8].toArray } : Obj)), (nu, W.listOf nus nn), (104, tabObj q1), (111, tabObj q2)] : List (Addr × Obj)), q.1 ≠ p.1) → Q (.ref pg) { s with heap := h', toks := tk' }) :
    wpAny (model PW w) (ktrTop dp un gd cn cs L a ccd cl outer) (call (.ref 299) [.ref rl]) Q E s := by
  k_with_none
  k_with "call ref" => (k_dflt (first | (refine' call_cls ?k1 ?k2 ?k3 ?k4 ?k5 ?k6 ?_; (case k1 => k_asm); (case k2 => k_asm); (case k3 => k_asm); (case k4 => k_is); (case k5 => k_is); (case k6 => k_is); k_whole; intro x' d' h' F' N' l1 l2; (try k_lt l1); (try k_lt2 l2); (try k_sweep); (refine' code_def ?k1 ?k2 ?k3 ?k4 ?k5 ?kA ?kF ?kK ?k6 ?k7 ?k8 ?k9 ?kB ?_ ?c2 ?c3 ?c4 ?c5; (case kA => exact rfl); (case kF => exact rfl); (case kK => first | exact rfl | assumption); (case k1 => k_asm); (case k2 => k_asm); (case k3 => k_asm); (case k4 => k_asm); (case k5 => k_asm); (case k6 => k_is); (case k7 => k_is); (case k8 => ktr_room); (case k9 => first | exact BindsTo.of_eq rfl | exact binds_K (by k_in) rfl (by k_is) rfl rfl rfl); (case c5 => decide); (case kB => exact locs rfl); (case c2 => exact rfl); (case c3 => exact rfl); (case c4 => exact rfl); k_whole; intro g' L' h' FG' F' N' B' X' T'; (try dsimp only); (try k_lift B'); (try k_fold))) | (refine wpAny_call ?_; (refine' code_def ?k1 ?k2 ?k3 ?k4 ?k5 ?kA ?kF ?kK ?k6 ?k7 ?k8 ?k9 ?kB ?_ ?c2 ?c3 ?c4 ?c5; (case kA => exact rfl); (case kF => exact rfl); (case kK => first | exact rfl | assumption); (case k1 => k_asm); (case k2 => k_asm); (case k3 => k_asm); (case k4 => k_asm); (case k5 => k_asm); (case k6 => k_is); (case k7 => k_is); (case k8 => ktr_room); (case k9 => first | exact BindsTo.of_eq rfl | exact binds_K (by k_in) rfl (by k_is) rfl rfl rfl); (case c5 => decide); (case kB => exact locs rfl); (case c2 => exact rfl); (case c3 => exact rfl); (case c4 => exact rfl); k_whole; intro g' L' h' FG' F' N' B' X' T'; (try dsimp only); (try k_lift B'); (try k_fold)))))
  k_with "!pyIter ref" => (k_dflt (refine' page_loop [(b0, "pf", r0, g0, gt0, d0, rt0), (b1, "pi", r1, g1, gt1, d1, rt1), (b2, "qf", r2, g2, gt2, d2, rt2), (b3, "qi", r3, g3, gt3, d3, rt3), (b4, "rf", r4, g4, gt4, d4, rt4), (b5, "ri", r5, g5, gt5, d5, rt5), (b6, "p.", r6, g6, gt6, d6, rt6), (b7, "q.", r7, g7, gt7, d7, rt7), (b8, "r.", r8, g8, gt8, d8, rt8)] ?k1 ?k3 ?k5 ?kd ?ku ?k2 ?k4 ?r1 ?r2 ?r3 ?o3 ?lt1 ?lt2 ?hok ?hl ?hrl ?hm ?_; (case k1 => k_asm); (case k2 => k_asm); (case k3 => k_asm); (case k4 => k_asm); (case k5 => k_asm); (case r1 => repeat (first | exact Rem.head | apply Rem.tail)); (case r2 => repeat (first | exact Rem.head | apply Rem.tail)); (case r3 => repeat (first | exact Rem.head | apply Rem.tail)); (case o3 => lcg_off); (case lt1 => omega); (case lt2 => omega); (case hl => (show 9 < 1000; decide)); (case hrl => k_mem); (case hm => exact rfl); (case hok => exact List.forall_mem_cons.mpr ⟨⟨⟨(show ("pf" : String) ∈ (["pf","pi","qf","qi","rf","ri","p.","q.","r.","Pf","PF","PI","QF","QI","RF","RI","P.","Q.","R."] : List String) by decide), hg0, hd0⟩, by k_mem⟩, List.forall_mem_cons.mpr ⟨⟨⟨(show ("pi" : String) ∈ (["pf","pi","qf","qi","rf","ri","p.","q.","r.","Pf","PF","PI","QF","QI","RF","RI","P.","Q.","R."] : List String) by decide), hg1, hd1⟩, by k_mem⟩, List.forall_mem_cons.mpr ⟨⟨⟨(show ("qf" : String) ∈ (["pf","pi","qf","qi","rf","ri","p.","q.","r.","Pf","PF","PI","QF","QI","RF","RI","P.","Q.","R."] : List String) by decide), hg2, hd2⟩, by k_mem⟩, List.forall_mem_cons.mpr ⟨⟨⟨(show ("qi" : String) ∈ (["pf","pi","qf","qi","rf","ri","p.","q.","r.","Pf","PF","PI","QF","QI","RF","RI","P.","Q.","R."] : List String) by decide), hg3, hd3⟩, by k_mem⟩, List.forall_mem_cons.mpr ⟨⟨⟨(show ("rf" : String) ∈ (["pf","pi","qf","qi","rf","ri","p.","q.","r.","Pf","PF","PI","QF","QI","RF","RI","P.","Q.","R."] : List String) by decide), hg4, hd4⟩, by k_mem⟩, List.forall_mem_cons.mpr ⟨⟨⟨(show ("ri" : String) ∈ (["pf","pi","qf","qi","rf","ri","p.","q.","r.","Pf","PF","PI","QF","QI","RF","RI","P.","Q.","R."] : List String) by decide), hg5, hd5⟩, by k_mem⟩, List.forall_mem_cons.mpr ⟨⟨⟨(show ("p." : String) ∈ (["pf","pi","qf","qi","rf","ri","p.","q.","r.","Pf","PF","PI","QF","QI","RF","RI","P.","Q.","R."] : List String) by decide), hg6, hd6⟩, by k_mem⟩, List.forall_mem_cons.mpr ⟨⟨⟨(show ("q." : String) ∈ (["pf","pi","qf","qi","rf","ri","p.","q.","r.","Pf","PF","PI","QF","QI","RF","RI","P.","Q.","R."] : List String) by decide), hg7, hd7⟩, by k_mem⟩, List.forall_mem_cons.mpr ⟨⟨⟨(show ("r." : String) ∈ (["pf","pi","qf","qi","rf","ri","p.","q.","r.","Pf","PF","PI","QF","QI","RF","RI","P.","Q.","R."] : List String) by decide), hg8, hd8⟩, by k_mem⟩, fun _ h => absurd h List.not_mem_nil⟩⟩⟩⟩⟩⟩⟩⟩⟩); (case kd => ktr_room); (case ku => ktr_units)); intro as m' n' h' tk' R' e1 e2 e3 F' hm' N'; (try dsimp only))
  k_with "!eval Name" => (k_dflt (refine ld F' hm' ?_ rfl rfl))
  k_with "exec For Tuple Attribute cons nil" => ((rename Fr _ _ _ _ => lF'); (with_unfolding_all refine' For_turns lF' ?_; k_whole))

  k_with "exec For Tuple Name cons nil" => ((rename Fr _ _ _ _ => lF'); (with_unfolding_all refine' For_turns lF' ?_; k_whole))

  refine wpAny_call ?_
  k_dflt (refine' code_defPF (rest := rest) ?k1 ?k2 ?k3 ?k4 ?kr1 ?kr2 ?k5 ?kA ?kF ?kK ?k6 ?k7 ?k8 ?k9 ?kB ?_ ?c2 ?c3 ?c4 ?c5; (case kA => exact rfl); (case kF => exact rfl); (case kK => first | exact rfl | assumption); (case k1 => k_asm); (case k2 => k_asm); (case k3 => k_asm); (case k4 => exact N); (case kr1 => exact NR); (case kr2 => exact off); (case k5 => k_asm); (case k6 => k_is); (case k7 => k_is); (case k8 => ktr_room); (case k9 => first | exact BindsTo.of_eq rfl | exact binds_K (by k_in) rfl (by k_is) rfl rfl rfl); (case c5 => decide); (case kB => exact locs rfl); (case c2 => exact rfl); (case c3 => exact rfl); (case c4 => exact rfl); k_whole; intro g' L' h' HB FG' F' N' B' X' T' l1 LR; (try k_lt l1); (try dsimp only); (try k_lift B'); (try k_fold); refine fold_ae ?_; intro eK AK)
  k_steps
  all_goals (unfold RestR; dsimp only; rename News _ _ _ _ => kN9; intro NR')
  all_goals (obtain ⟨⟨a0, u0⟩, ⟨a1, u1⟩, ⟨a2, u2⟩, ⟨a3, u3⟩, ⟨a4, u4⟩, ⟨a5, u5⟩, ⟨a6, u6⟩, ⟨a7, u7⟩, ⟨a8, u8⟩, ea⟩ := nine e1; subst ea; simp only [List.map_cons, List.map_nil] at kN9 N')
  all_goals (k_dflt (exact hret _ _ _ _ _ _ a0 a1 a2 a3 a4 a5 a6 a7 a8 u0 u1 u2 u3 u4 u5 u6 u7 u8 _ _ (by k_asm) (cb_drop kN9 (SubL.mem ⟨.head _, .tail _ (.head _), .tail _ (.tail _ (.head _)), .tail _ (.tail _ (.tail _ (e2 _ (.head _)))), .tail _ (.tail _ (.tail _ (e2 _ (.tail _ (.head _))))), .tail _ (.tail _ (.tail _ (e2 _ (.tail _ (.tail _ (.head _)))))), .tail _ (.tail _ (.tail _ (e2 _ (.tail _ (.tail _ (.tail _ (.head _))))))), .tail _ (.tail _ (.tail _ (e2 _ (.tail _ (.tail _ (.tail _ (.tail _ (.head _)))))))), .tail _ (.tail _ (.tail _ (e2 _ (.tail _ (.tail _ (.tail _ (.tail _ (.tail _ (.head _))))))))), .tail _ (.tail _ (.tail _ (e2 _ (.tail _ (.tail _ (.tail _ (.tail _ (.tail _ (.tail _ (.head _)))))))))), .tail _ (.tail _ (.tail _ (e2 _ (.tail _ (.tail _ (.tail _ (.tail _ (.tail _ (.tail _ (.tail _ (.head _))))))))))), .tail _ (.tail _ (.tail _ (e2 _ (.tail _ (.tail _ (.tail _ (.tail _ (.tail _ (.tail _ (.tail _ (.tail _ (.head _)))))))))))), .tail _ (.tail _ (.tail _ (e3 _ (by k_mem)))), .tail _ (.tail _ (.tail _ (e3 _ (by k_mem)))), .tail _ (.tail _ (.tail _ (e3 _ (by k_mem)))), trivial⟩)) NR' (rest_offHP HB NR off N' (SubL.mem ⟨.head _, .tail _ (.head _), .tail _ (.tail _ (.head _)), .tail _ (.tail _ (.tail _ (e2 _ (.head _)))), .tail _ (.tail _ (.tail _ (e2 _ (.tail _ (.head _))))), .tail _ (.tail _ (.tail _ (e2 _ (.tail _ (.tail _ (.head _)))))), .tail _ (.tail _ (.tail _ (e2 _ (.tail _ (.tail _ (.tail _ (.head _))))))), .tail _ (.tail _ (.tail _ (e2 _ (.tail _ (.tail _ (.tail _ (.tail _ (.head _)))))))), .tail _ (.tail _ (.tail _ (e2 _ (.tail _ (.tail _ (.tail _ (.tail _ (.tail _ (.head _))))))))), .tail _ (.tail _ (.tail _ (e2 _ (.tail _ (.tail _ (.tail _ (.tail _ (.tail _ (.tail _ (.head _)))))))))), .tail _ (.tail _ (.tail _ (e2 _ (.tail _ (.tail _ (.tail _ (.tail _ (.tail _ (.tail _ (.tail _ (.head _))))))))))), .tail _ (.tail _ (.tail _ (e2 _ (.tail _ (.tail _ (.tail _ (.tail _ (.tail _ (.tail _ (.tail _ (.tail _ (.head _)))))))))))), .tail _ (.tail _ (.tail _ (e3 _ (by k_mem)))), .tail _ (.tail _ (.tail _ (e3 _ (by k_mem)))), .tail _ (.tail _ (.tail _ (e3 _ (by k_mem)))), trivial⟩))))
end Mine
end

section
open PySem PySem.W PyProof.Rows PySem.Spec PySem.Calls
set_option Elab.async false
set_option maxRecDepth 100000
namespace Mine
theorem kwn_RV : True := by
  k_with_none
  trivial
theorem fillRV : RW = RW ∧ KF = KF := by
  k_fill
  exact ⟨rfl, rfl⟩
set_option maxHeartbeats 0
set_option rowWalk.seconds 0
theorem rapp {prog : Program} {w : World} {A : Around} {E : Value → Shared → Prop} {s : Shared} {h₀ : Heap} {L T1 rl : Addr} {m : Str → Option Value} {o1 : Obj} {its : Array Value} {n : Nat} {v : Value} {R : List (Addr × Obj)} {Q : Value → Shared → Prop} (F : Fr h₀ L s.heap m) (N : News h₀ L s.heap ((T1, o1) :: (rl, W.listOf its n) :: R)) (h1 : T1 ≠ rl) (off : ∀ p ∈ R, p.1 ≠ rl) (hsz : its.size < 1000)
    (q : ∀ h', Fr h₀ L h' m → News h₀ L h' ((T1, o1) :: (rl, W.listOf (its.push v) (n + 1)) :: R) → Q .none { s with heap := h' }) : wpAny (model prog w) A (call (.builtin "list.append") [.ref rl, v]) Q E s := by
  have z := N (rl, W.listOf its n) (.tail _ (.head _))
  refine append_at (hsz := Nat.le_trans (Nat.le_of_lt hsz) (Nat.le_of_ble_eq_true rfl)) z.1 fun h' hs ho => q h' (F.change hs z.2.1 z.2.2) fun p hp => ?_
  rcases List.mem_cons.mp hp with rfl | hp
  · have y := N _ (List.Mem.head _); exact ⟨hs.extBut _ _ h1 y.1, y.2⟩
  rcases List.mem_cons.mp hp with rfl | hp
  · exact ⟨ho, z.2⟩
  · have y := N p (.tail _ (.tail _ hp)); exact ⟨hs.extBut _ _ (off p hp) y.1, y.2⟩
noncomputable def forB : Stmt → Option (List Stmt)
  | .For _ _ b _ _ => some b
  | _ => none
noncomputable abbrev rB : List Stmt := (⟨_, rfl⟩ : {x : List Stmt // ((T23.body[1]?).bind forB).bind (fun b => (b[0]?).bind forB) = some x}).val
noncomputable abbrev rC : List Stmt := (⟨_, rfl⟩ : {x : List Stmt // (T23.body[2]?).bind forB = some x}).val
theorem rturn {w : World} {mean : ExcName → Option Value} {mg mb : Str → Option Value} {dp un : Nat} {gd : Option (List Code)} {outer : List Env} {A₀ : Around} {base h₀ : Heap} {L : Addr} {m : Str → Option Value} {s : Shared} {E : Value → Shared → Prop} {K : Flow → Shared → Prop} {rl : Addr} {its : Array Value} {n : Nat} {a b c : Str} {ta tb tx : Tok} {x : Int} {all R : List (Addr × Obj)}
    (B : Below A₀ base outer h₀) (F : Fr h₀ L s.heap m) (X : (KF w.params).In h₀) (N : News h₀ L s.heap all) (R1 : Rem (rl, W.listOf its n) all R) (off : ∀ p ∈ R, p.1 ≠ rl) (hsz : its.size < 1000) (T : Top topProg LN mean mg mb h₀) (hd : dp + 4 < recursionLimit) (hu : un + 32 < cLine)
    (hm1 : m (Str.ofString "rules") = some (.ref rl)) (hm2 : m (Str.ofString "mind") = some (.str a ta)) (hm3 : m (Str.ofString "sign") = some (.str b tb)) (hm4 : m (Str.ofString "x") = some (.int x tx)) (hx0 : 0 ≤ x) (hx1 : x < 2000000000) (ha : a.length = 1) (hb : b.length = 1) (hc : a ++ b = c)
    (kk : ∀ x' T1 n' t1 t2 t3 t4 h' tk', 0 ≤ x' → x' < 2000000000 → Fr h₀ L h' (fun y => if y = Str.ofString "x" then some (.int x' t4) else m y) → News h₀ L h' ((T1, { cls := .type "tuple", data := .seq [.str c t1, .int (x.fmod 3 + 1) t2, .int ((x.fdiv 3).fmod 2) t3].toArray }) :: (rl, W.listOf (its.push (.ref T1)) n') :: R) → (∀ p ∈ (rl, W.listOf its n) :: R, p.1 < T1) → K .next { s with heap := h', toks := tk' }) :
    wpAny (model PW w) (ktrTop dp un gd (Str.ofString "_law_rules") T23.scope L 292 (.ref 291) [] outer) (execs rB (envOf (Str.ofString "_law_rules") T23.scope L 292 (.ref 291))) K E s := by
  have N0 : News h₀ L s.heap ((rl, W.listOf its n) :: R) := cb_drop N fun p hp => by
    rcases List.mem_cons.mp hp with rfl | hp
    · exact R1.mem
    · exact R1.sub _ hp
  clear N R1
  dsimp only [rB]
  k_with_none
  k_with "eval Name" => (k_dflt (first | refine ld (by k_asm) hm1 ?_ rfl rfl | refine ld (by k_asm) hm2 ?_ rfl rfl | refine ld (by k_asm) hm3 ?_ rfl rfl | refine ld (by k_asm) hm4 ?_ rfl rfl))
  k_with "binaryOp Add str str" => (k_dflt (refine add_str ?_ (by (first | rw [ha, hb] | rw [ha]); decide)); intro t8 k8; (try rw [hc]))
  k_with "!newTuple" => ((rename Fr _ _ _ _ => lF'); (rename News _ _ _ _ => lN'); (k_dflt (refine kup_newTuple lF' lN' ?_ (Nat.le_of_ble_eq_true rfl))); intro T9 h9 F9 N9 l9; (clear lF' lN'))
  k_with "call builtin:list.append" => ((rename Fr _ _ _ _ => lF'); (rename News _ _ _ _ => lN'); (k_dflt (refine rapp lF' lN' (Ne.symm (Nat.ne_of_lt (l9 _ (.head _)))) off hsz ?_)); intro h7 F7 N7; (clear lF' lN'))
  k_steps
  all_goals (have hq : 0 ≤ x.fdiv 6 ∧ x.fdiv 6 < 2000000000 := by (rw [Int.fdiv_eq_ediv_of_nonneg _ (by decide)]; omega))
  all_goals exact kk _ _ _ _ _ _ _ _ _ hq.1 hq.2 (by k_asm) (by k_asm) l9
theorem rturnC {w : World} {mean : ExcName → Option Value} {mg mb : Str → Option Value} {dp un : Nat} {gd : Option (List Code)} {outer : List Env} {A₀ : Around} {base h₀ : Heap} {L : Addr} {m : Str → Option Value} {s : Shared} {E : Value → Shared → Prop} {K : Flow → Shared → Prop} {rl : Addr} {its : Array Value} {n : Nat} {a c : Str} {ta tx : Tok} {x : Int} {all R : List (Addr × Obj)}
    (B : Below A₀ base outer h₀) (F : Fr h₀ L s.heap m) (X : (KF w.params).In h₀) (N : News h₀ L s.heap all) (R1 : Rem (rl, W.listOf its n) all R) (off : ∀ p ∈ R, p.1 ≠ rl) (hsz : its.size < 1000) (T : Top topProg LN mean mg mb h₀) (hd : dp + 4 < recursionLimit) (hu : un + 32 < cLine)
    (hm1 : m (Str.ofString "rules") = some (.ref rl)) (hm2 : m (Str.ofString "mind") = some (.str a ta))  (hm4 : m (Str.ofString "x") = some (.int x tx)) (hx0 : 0 ≤ x) (hx1 : x < 2000000000) (ha : a.length = 1)  (hc : a ++ Str.ofString "." = c)
    (kk : ∀ x' T1 n' t1 t2 t3 t4 h' tk', 0 ≤ x' → x' < 2000000000 → Fr h₀ L h' (fun y => if y = Str.ofString "x" then some (.int x' t4) else m y) → News h₀ L h' ((T1, { cls := .type "tuple", data := .seq [.str c t1, .int (x.fmod 3 + 1) t2, .int (1) t3].toArray }) :: (rl, W.listOf (its.push (.ref T1)) n') :: R) → (∀ p ∈ (rl, W.listOf its n) :: R, p.1 < T1) → K .next { s with heap := h', toks := tk' }) :
    wpAny (model PW w) (ktrTop dp un gd (Str.ofString "_law_rules") T23.scope L 292 (.ref 291) [] outer) (execs rC (envOf (Str.ofString "_law_rules") T23.scope L 292 (.ref 291))) K E s := by
  have N0 : News h₀ L s.heap ((rl, W.listOf its n) :: R) := cb_drop N fun p hp => by
    rcases List.mem_cons.mp hp with rfl | hp
    · exact R1.mem
    · exact R1.sub _ hp
  clear N R1
  dsimp only [rC]
  k_with_none
  k_with "eval Name" => (k_dflt (first | refine ld (by k_asm) hm1 ?_ rfl rfl | refine ld (by k_asm) hm2 ?_ rfl rfl | refine ld (by k_asm) hm4 ?_ rfl rfl))
  k_with "binaryOp Add str str" => (k_dflt (refine add_str ?_ (by rw [ha]; decide +kernel)); intro t8 k8; (try rw [hc]))
  k_with "!newTuple" => ((rename Fr _ _ _ _ => lF'); (rename News _ _ _ _ => lN'); (k_dflt (refine kup_newTuple lF' lN' ?_ (Nat.le_of_ble_eq_true rfl))); intro T9 h9 F9 N9 l9; (clear lF' lN'))
  k_with "call builtin:list.append" => ((rename Fr _ _ _ _ => lF'); (rename News _ _ _ _ => lN'); (k_dflt (refine rapp lF' lN' (Ne.symm (Nat.ne_of_lt (l9 _ (.head _)))) off hsz ?_)); intro h7 F7 N7; (clear lF' lN'))
  k_steps
  all_goals (have hq : 0 ≤ x.fdiv 3 ∧ x.fdiv 3 < 2000000000 := by (rw [Int.fdiv_eq_ediv_of_nonneg _ (by decide)]; omega))
  all_goals exact kk _ _ _ _ _ _ _ _ _ hq.1 hq.2 (by k_asm) (by k_asm) l9
end Mine
end

section
open PySem PySem.W PyProof.Rows PySem.Spec PySem.Calls
set_option Elab.async false
set_option maxRecDepth 100000
namespace Mine
theorem kwn_RU : True := by
  k_with_none
  trivial
theorem fillRU : RW = RW ∧ KF = KF := by
  k_fill
  exact ⟨rfl, rfl⟩
set_option maxHeartbeats 0
set_option rowWalk.seconds 0
theorem gm3 (a : Int) : 1 ≤ a.fmod 3 + 1 ∧ a.fmod 3 + 1 < 4 := by
  have h1 := Int.fmod_nonneg_of_pos a (show (0:Int) < 3 by decide)
  have h2 := Int.fmod_lt_of_pos a (show (0:Int) < 3 by decide)
  omega
theorem dm2 (a : Int) : a.fmod 2 = 0 ∨ a.fmod 2 = 1 := by
  have h1 := Int.fmod_nonneg_of_pos a (show (0:Int) < 2 by decide)
  have h2 := Int.fmod_lt_of_pos a (show (0:Int) < 2 by decide)
  omega
theorem rest_offRU {h g h' h₀ : Heap} {L L' : Addr} {news rest nx led : List (Addr × Obj)} (HB : HoldsBut h g news) (NR : News h₀ L h rest) (off : ∀ p ∈ rest, p.1 ∉ news.map (·.1)) (N : News g L' h' nx) (sub : ∀ q ∈ led, q ∈ nx) : ∀ p ∈ rest, ∀ q ∈ led, q.1 ≠ p.1 := fun p hp q hq e => by
  have := HB _ _ (NR p hp).1 (off p hp)
  rw [← e, (N q (sub q hq)).2.2] at this; cases this
theorem rules_ok {w : World} {x : Int} {tx : Tok} (h0 : 0 ≤ x) (h1 : x < 2000000000) {mean : ExcName → Option Value} {mg mb : Str → Option Value} {dp un : Nat} {gd : Option (List Code)} {cn : Str} {cs : Scope} {a : Addr} {ccd : Value} {cl : List (Str × Addr)} {outer : List Env} {A₀ : Around} {base h₀ : Heap} {L : Addr} {m : Str → Option Value} {s : Shared} {Q E : Value → Shared → Prop} {rest : List (Addr × Obj)}
    (B : Below A₀ base outer h₀) (F : Fr h₀ L s.heap m) (X : (KF w.params).In h₀) (N : News h₀ L s.heap [(104, tabObj #[]), (111, tabObj #[])]) (NR : News h₀ L s.heap rest) (off : ∀ p ∈ rest, p.1 ∉ ([(104, tabObj #[]), (111, tabObj #[])] : List (Addr × Obj)).map (·.1)) (T : Top topProg LN mean mg mb h₀) (hk : cs.kind = .function) (hd : dp + 8 < recursionLimit) (hu : un + 64 < cLine)
    (hret : ∀ (rn : Nat) (rl b0 b1 b2 b3 b4 b5 b6 b7 b8 : Addr) (r0 r1 r2 r3 r4 r5 r6 r7 r8 gt0 gt1 gt2 gt3 gt4 gt5 gt6 gt7 gt8 rt0 rt1 rt2 rt3 rt4 rt5 rt6 rt7 rt8 : Tok) (g0 g1 g2 g3 g4 g5 g6 g7 g8 d0 d1 d2 d3 d4 d5 : Int) (h' : Heap) (tk' : Nat), (1 ≤ g0 ∧ g0 < 4) → (1 ≤ g1 ∧ g1 < 4) → (1 ≤ g2 ∧ g2 < 4) → (1 ≤ g3 ∧ g3 < 4) → (1 ≤ g4 ∧ g4 < 4) → (1 ≤ g5 ∧ g5 < 4) → (1 ≤ g6 ∧ g6 < 4) → (1 ≤ g7 ∧ g7 < 4) → (1 ≤ g8 ∧ g8 < 4) → (d0 = 0 ∨ d0 = 1) → (d1 = 0 ∨ d1 = 1) → (d2 = 0 ∨ d2 = 1) → (d3 = 0 ∨ d3 = 1) → (d4 = 0 ∨ d4 = 1) → (d5 = 0 ∨ d5 = 1) → Fr h₀ L h' m → News h₀ L h' [(rl, W.listOf #[.ref b0, .ref b1, .ref b2, .ref b3, .ref b4, .ref b5, .ref b6, .ref b7, .ref b8] rn), (b0, ({ cls := .type "tuple", data := .seq [.str (Str.ofString "pf") r0, .int g0 gt0, .int d0 rt0].toArray } : Obj)), (b1, ({ cls := .type "tuple", data := .seq [.str (Str.ofString "pi") r1, .int g1 gt1, .int d1 rt1].toArray } : Obj)), (b2, ({ cls := .type "tuple", data := .seq [.str (Str.ofString "qf") r2, .int g2 gt2, .int d2 rt2].toArray } : Obj)), (b3, ({ cls := .type "tuple", data := .seq [.str (Str.ofString "qi") r3, .int g3 gt3, .int d3 rt3].toArray } : Obj)), (b4, ({ cls := .type "tuple", data := .seq [.str (Str.ofString "rf") r4, .int g4 gt4, .int d4 rt4].toArray } : Obj)), (b5, ({ cls := .type "tuple", data := .seq [.str (Str.ofString "ri") r5, .int g5 gt5, .int d5 rt5].toArray } : Obj)), (b6, ({ cls := .type "tuple", data := .seq [.str (Str.ofString "p.") r6, .int g6 gt6, .int 1 rt6].toArray } : Obj)), (b7, ({ cls := .type "tuple", data := .seq [.str (Str.ofString "q.") r7, .int g7 gt7, .int 1 rt7].toArray } : Obj)), (b8, ({ cls := .type "tuple", data := .seq [.str (Str.ofString "r.") r8, .int g8 gt8, .int 1 rt8].toArray } : Obj)), (104, tabObj #[]), (111, tabObj #[])] → News h₀ L h' rest → (∀ p ∈ rest, ∀ q ∈ ([(rl, W.listOf #[.ref b0, .ref b1, .ref b2, .ref b3, .ref b4, .ref b5, .ref b6, .ref b7, .ref b8] rn), (b0, ({ cls := .type "tuple", data := .seq [.str (Str.ofString "pf") r0, .int g0 gt0, .int d0 rt0].toArray } : Obj)), (b1, ({ cls := .type "tuple", data := .seq [.str (Str.ofString "pi") r1, .int g1 gt1, .int d1 rt1].toArray } : Obj)), (b2, ({ cls := .type "tuple", data := .seq [.str (Str.ofString "qf") r2, .int g2 gt2, .int d2 rt2].toArray } : Obj)), (b3, ({ cls := .type "tuple", data := .seq [.str (Str.ofString "qi") r3, .int g3 gt3, .int d3 rt3].toArray } : Obj)), (b4, ({ cls := .type "tuple", data := .seq [.str (Str.ofString "rf") r4, .int g4 gt4, .int d4 rt4].toArray } : Obj)), (b5, ({ cls := .type "tuple", data := .seq [.str (Str.ofString "ri") r5, .int g5 gt5, .int d5 rt5].toArray } : Obj)), (b6, ({ cls := .type "tuple", data := .seq [.str (Str.ofString "p.") r6, .int g6 gt6, .int 1 rt6].toArray } : Obj)), (b7, ({ cls := .type "tuple", data := .seq [.str (Str.ofString "q.") r7, .int g7 gt7, .int 1 rt7].toArray } : Obj)), (b8, ({ cls := .type "tuple", data := .seq [.str (Str.ofString "r.") r8, .int g8 gt8, .int 1 rt8].toArray } : Obj)), (104, tabObj #[]), (111, tabObj #[])] : List (Addr × Obj)), q.1 ≠ p.1) → Q (.ref rl) { s with heap := h', toks := tk' }) :
    wpAny (model PW w) (ktrTop dp un gd cn cs L a ccd cl outer) (call (.ref 292) [.int x tx]) Q E s := by
  k_with_none
  k_with "!UnrPost" => (dsimp only [UnrPost]; show UnrEnd _ _ _ _ _ _ _)
  k_with "!execs cons Expr cons" => (k_dflt (first | (refine' rturn (a := Str.ofString "p") (b := Str.ofString "f") (c := Str.ofString "pf") ?k1 ?k2 ?k3 ?k4 ?r1 ?off ?hsz ?k5 ?kd ?ku ?hm1 ?hm2 ?hm3 ?hm4 ?hx0 ?hx1 ?ha ?hb ?hc ?_; (case k2 => k_asm); (case hm2 => exact rfl); (case hm3 => exact rfl); (case k1 => k_asm); (case k3 => k_asm); (case k4 => k_asm); (case k5 => k_asm); (case hm1 => exact rfl); (case hm4 => exact rfl); (case r1 => repeat (first | exact Rem.head | apply Rem.tail)); (case off => k_all); (case hsz => exact Nat.le_of_ble_eq_true rfl); (case hx0 => assumption); (case hx1 => assumption); (case ha => decide +kernel); (case hb => decide +kernel); (case hc => decide +kernel); (case kd => ktr_room); (case ku => ktr_units)) | (refine' rturn (a := Str.ofString "p") (b := Str.ofString "i") (c := Str.ofString "pi") ?k1 ?k2 ?k3 ?k4 ?r1 ?off ?hsz ?k5 ?kd ?ku ?hm1 ?hm2 ?hm3 ?hm4 ?hx0 ?hx1 ?ha ?hb ?hc ?_; (case k2 => k_asm); (case hm2 => exact rfl); (case hm3 => exact rfl); (case k1 => k_asm); (case k3 => k_asm); (case k4 => k_asm); (case k5 => k_asm); (case hm1 => exact rfl); (case hm4 => exact rfl); (case r1 => repeat (first | exact Rem.head | apply Rem.tail)); (case off => k_all); (case hsz => exact Nat.le_of_ble_eq_true rfl); (case hx0 => assumption); (case hx1 => assumption); (case ha => decide +kernel); (case hb => decide +kernel); (case hc => decide +kernel); (case kd => ktr_room); (case ku => ktr_units)) | (refine' rturn (a := Str.ofString "q") (b := Str.ofString "f") (c := Str.ofString "qf") ?k1 ?k2 ?k3 ?k4 ?r1 ?off ?hsz ?k5 ?kd ?ku ?hm1 ?hm2 ?hm3 ?hm4 ?hx0 ?hx1 ?ha ?hb ?hc ?_; (case k2 => k_asm); (case hm2 => exact rfl); (case hm3 => exact rfl); (case k1 => k_asm); (case k3 => k_asm); (case k4 => k_asm); (case k5 => k_asm); (case hm1 => exact rfl); (case hm4 => exact rfl); (case r1 => repeat (first | exact Rem.head | apply Rem.tail)); (case off => k_all); (case hsz => exact Nat.le_of_ble_eq_true rfl); (case hx0 => assumption); (case hx1 => assumption); (case ha => decide +kernel); (case hb => decide +kernel); (case hc => decide +kernel); (case kd => ktr_room); (case ku => ktr_units)) | (refine' rturn (a := Str.ofString "q") (b := Str.ofString "i") (c := Str.ofString "qi") ?k1 ?k2 ?k3 ?k4 ?r1 ?off ?hsz ?k5 ?kd ?ku ?hm1 ?hm2 ?hm3 ?hm4 ?hx0 ?hx1 ?ha ?hb ?hc ?_; (case k2 => k_asm); (case hm2 => exact rfl); (case hm3 => exact rfl); (case k1 => k_asm); (case k3 => k_asm); (case k4 => k_asm); (case k5 => k_asm); (case hm1 => exact rfl); (case hm4 => exact rfl); (case r1 => repeat (first | exact Rem.head | apply Rem.tail)); (case off => k_all); (case hsz => exact Nat.le_of_ble_eq_true rfl); (case hx0 => assumption); (case hx1 => assumption); (case ha => decide +kernel); (case hb => decide +kernel); (case hc => decide +kernel); (case kd => ktr_room); (case ku => ktr_units)) | (refine' rturn (a := Str.ofString "r") (b := Str.ofString "f") (c := Str.ofString "rf") ?k1 ?k2 ?k3 ?k4 ?r1 ?off ?hsz ?k5 ?kd ?ku ?hm1 ?hm2 ?hm3 ?hm4 ?hx0 ?hx1 ?ha ?hb ?hc ?_; (case k2 => k_asm); (case hm2 => exact rfl); (case hm3 => exact rfl); (case k1 => k_asm); (case k3 => k_asm); (case k4 => k_asm); (case k5 => k_asm); (case hm1 => exact rfl); (case hm4 => exact rfl); (case r1 => repeat (first | exact Rem.head | apply Rem.tail)); (case off => k_all); (case hsz => exact Nat.le_of_ble_eq_true rfl); (case hx0 => assumption); (case hx1 => assumption); (case ha => decide +kernel); (case hb => decide +kernel); (case hc => decide +kernel); (case kd => ktr_room); (case ku => ktr_units)) | (refine' rturn (a := Str.ofString "r") (b := Str.ofString "i") (c := Str.ofString "ri") ?k1 ?k2 ?k3 ?k4 ?r1 ?off ?hsz ?k5 ?kd ?ku ?hm1 ?hm2 ?hm3 ?hm4 ?hx0 ?hx1 ?ha ?hb ?hc ?_; (case k2 => k_asm); (case hm2 => exact rfl); (case hm3 => exact rfl); (case k1 => k_asm); (case k3 => k_asm); (case k4 => k_asm); (case k5 => k_asm); (case hm1 => exact rfl); (case hm4 => exact rfl); (case r1 => repeat (first | exact Rem.head | apply Rem.tail)); (case off => k_all); (case hsz => exact Nat.le_of_ble_eq_true rfl); (case hx0 => assumption); (case hx1 => assumption); (case ha => decide +kernel); (case hb => decide +kernel); (case hc => decide +kernel); (case kd => ktr_room); (case ku => ktr_units)) | (refine' rturnC (a := Str.ofString "p") (c := Str.ofString "p.") ?k1 ?k2 ?k3 ?k4 ?r1 ?off ?hsz ?k5 ?kd ?ku ?hm1 ?hm2 ?hm4 ?hx0 ?hx1 ?ha ?hc ?_; (case k2 => k_asm); (case hm2 => exact rfl);  (case k1 => k_asm); (case k3 => k_asm); (case k4 => k_asm); (case k5 => k_asm); (case hm1 => exact rfl); (case hm4 => exact rfl); (case r1 => repeat (first | exact Rem.head | apply Rem.tail)); (case off => k_all); (case hsz => exact Nat.le_of_ble_eq_true rfl); (case hx0 => assumption); (case hx1 => assumption); (case ha => decide +kernel);  (case hc => decide +kernel); (case kd => ktr_room); (case ku => ktr_units)) | (refine' rturnC (a := Str.ofString "q") (c := Str.ofString "q.") ?k1 ?k2 ?k3 ?k4 ?r1 ?off ?hsz ?k5 ?kd ?ku ?hm1 ?hm2 ?hm4 ?hx0 ?hx1 ?ha ?hc ?_; (case k2 => k_asm); (case hm2 => exact rfl);  (case k1 => k_asm); (case k3 => k_asm); (case k4 => k_asm); (case k5 => k_asm); (case hm1 => exact rfl); (case hm4 => exact rfl); (case r1 => repeat (first | exact Rem.head | apply Rem.tail)); (case off => k_all); (case hsz => exact Nat.le_of_ble_eq_true rfl); (case hx0 => assumption); (case hx1 => assumption); (case ha => decide +kernel);  (case hc => decide +kernel); (case kd => ktr_room); (case ku => ktr_units)) | (refine' rturnC (a := Str.ofString "r") (c := Str.ofString "r.") ?k1 ?k2 ?k3 ?k4 ?r1 ?off ?hsz ?k5 ?kd ?ku ?hm1 ?hm2 ?hm4 ?hx0 ?hx1 ?ha ?hc ?_; (case k2 => k_asm); (case hm2 => exact rfl);  (case k1 => k_asm); (case k3 => k_asm); (case k4 => k_asm); (case k5 => k_asm); (case hm1 => exact rfl); (case hm4 => exact rfl); (case r1 => repeat (first | exact Rem.head | apply Rem.tail)); (case off => k_all); (case hsz => exact Nat.le_of_ble_eq_true rfl); (case hx0 => assumption); (case hx1 => assumption); (case ha => decide +kernel);  (case hc => decide +kernel); (case kd => ktr_room); (case ku => ktr_units))); intro x9 T9 n9 t91 t92 t93 t94 h9 tk9 hx90 hx91 F9 N9 l9; (k_lt l9); (try k_sweep); (try dsimp only))
  refine wpAny_call ?_
  k_dflt (refine' code_defPF (rest := rest) ?k1 ?k2 ?k3 ?k4 ?kr1 ?kr2 ?k5 ?kA ?kF ?kK ?k6 ?k7 ?k8 ?k9 ?kB ?_ ?c2 ?c3 ?c4 ?c5; (case kA => exact rfl); (case kF => exact rfl); (case kK => first | exact rfl | assumption); (case k1 => k_asm); (case k2 => k_asm); (case k3 => k_asm); (case k4 => exact N); (case kr1 => exact NR); (case kr2 => exact off); (case k5 => k_asm); (case k6 => k_is); (case k7 => k_is); (case k8 => ktr_room); (case k9 => first | exact BindsTo.of_eq rfl | exact binds_K (by k_in) rfl (by k_is) rfl rfl rfl); (case c5 => decide); (case kB => exact locs rfl); (case c2 => exact rfl); (case c3 => exact rfl); (case c4 => exact rfl); k_whole; intro g' L' h' HB FG' F' N' B' X' T' l1 LR; (try k_lt l1); (try dsimp only); (try k_lift B'); (try k_fold); refine fold_ae ?_; intro eK AK)
  k_steps
  all_goals (unfold RestR; dsimp only; rename News _ _ _ _ => kN9; intro NR')
  all_goals (k_dflt (refine' hret _ _ _ _ _ _ _ _ _ _ _ _ _ _ _ _ _ _ _ _ _ _ _ _ _ _ _ _ _ _ _ _ _ _ _ _ _ _ _ _ _ _ _ _ _ _ _ _ _ _ _ _ _ _ _ ?g0 ?g1 ?g2 ?g3 ?g4 ?g5 ?g6 ?g7 ?g8 ?d0 ?d1 ?d2 ?d3 ?d4 ?d5 ?f ?n ?nr ?oo))
  case f => k_asm
  case n => k_dflt (exact cb_drop kN9 (SubL.mem (by k_subL)))
  case nr => exact NR'
  case oo => k_dflt (exact rest_offRU HB NR off (by assumption) (SubL.mem (by k_subL)))
  all_goals first | exact gm3 _ | exact dm2 _
end Mine
end

section
open PySem PySem.W PyProof.Rows PySem.Spec PySem.Calls PyProof.V
set_option Elab.async false
set_option maxRecDepth 100000
namespace Mine
theorem kwn_GT : True := by
  k_with_none
  trivial
theorem fillGT : RW = RW ∧ KF = KF := by
  k_fill
  exact ⟨rfl, rfl⟩
set_option maxHeartbeats 0
set_option rowWalk.seconds 0
noncomputable abbrev gP : PySem.Expr × List Stmt := (⟨_, rfl⟩ : {x : PySem.Expr × List Stmt // (M8.body[1]?).bind forT = some x}).val
noncomputable abbrev nineG : List String := ["pf","pi","qf","qi","rf","ri","p.","q.","r."]
theorem low9 : ∀ x ∈ nineG, Txt.lower (Str.ofString x) = Str.ofString x ∧ (Str.ofString x).length = 2 ∧ x ∈ (["pf","pi","qf","qi","rf","ri","p.","q.","r.","Pf","PF","PI","QF","QI","RF","RI","P.","Q.","R."] : List String) := by decide +kernel
theorem eq9 : ∀ x ∈ nineG, ∀ y ∈ nineG, (Str.ofString x == Str.ofString y) = decide (x = y) := by decide +kernel
theorem lowN {w : World} {A : Around} {E : Value → Shared → Prop} {s : Shared} {X : Str} {x : String} {t : Tok} {Q : Value → Shared → Prop} (e : Txt.lower X = Str.ofString x) (hl : X.length = 2) (h : Q (.str (Str.ofString x) s.toks) { s with toks := s.toks + 1 }) : wpAny (model PW w) A (call (.builtin "str.lower") [.str X t]) Q E s := by
  refine SCL.lower (by omega) ?_
  intro _
  rw [e]; exact h
theorem gturn {w : World} {mean : ExcName → Option Value} {mg mb : Str → Option Value} {dp un : Nat} {gd : Option (List Code)} {outer : List Env} {A₀ : Around} {base h₀ : Heap} {L : Addr} {m : Str → Option Value} {s : Shared} {E : Value → Shared → Prop} {K : Flow → Shared → Prop} {b : Addr} {x y : String} {tx ty tv : Tok} {v : Str} {all : List (Addr × Obj)}
    (B : Below A₀ base outer h₀) (F : Fr h₀ L s.heap m) (X : (KF w.params).In h₀) (N : News h₀ L s.heap all) (hx : x ∈ nineG) (hy : y ∈ nineG) (T : Top topProg LN mean mg mb h₀)
    (hm : m (Str.ofString "name") = some (.str (Str.ofString x) tx)) (hb : IsTup s.heap b #[.str (Str.ofString y) ty, .str v tv])
    (kk : ∀ h' tk', Fr h₀ L h' (fun z => if z = Str.ofString "v" then some (.str v tv) else if z = Str.ofString "k" then some (.str (Str.ofString y) ty) else m z) → News h₀ L h' all → K (if y = x then .ret (.str v tv) else .next) { s with heap := h', toks := tk' }) :
    wpAny (model PW w) (ktrTop dp un gd (Str.ofString "Headers.get") M8.scope L 216 (.ref 215) [] outer) (assign gP.1 (envOf (Str.ofString "Headers.get") M8.scope L 216 (.ref 215)) (.ref b)) (fun _ s₂ => wpAny (model PW w) (ktrTop dp un gd (Str.ofString "Headers.get") M8.scope L 216 (.ref 215) [] outer) (execs gP.2 (envOf (Str.ofString "Headers.get") M8.scope L 216 (.ref 215))) K E s₂) E s := by
  dsimp only [gP]
  refine assign_Tuple_tuple rfl hb rfl rfl fun h₁ e₁ => ?_
  have up : ∀ b o, s.heap.get? b = some o → h₁.get? b = some o := fun b o e => e₁ b o (Nat.ne_of_lt (Heap.lt_size e)) e
  have F1 : Fr h₀ L h₁ m := F.keeps up
  have N1 : News h₀ L h₁ all := fun p hp => ⟨up _ _ (N p hp).1, (N p hp).2⟩
  clear N F hb
  refine assignInOrder_cons (wpAny_assign_Name (stN F1 N1 (fun h₂ F2 N2 => ?_) rfl rfl))
  refine assignInOrder_cons (wpAny_assign_Name (stN F2 N2 (fun h₃ F3 N3 => ?_) rfl rfl))
  refine assignInOrder_nil ?_
  clear F1 N1 F2 N2
  have e9 := eq9 y hy x hx
  have l9 := low9 y hy
  k_with_none
  k_with "call builtin:str.lower" => (refine lowN l9.1 l9.2.1 ?_)
  k_with "compareOp Eq str str" => (refine eq_str ?_)
  k_with "eval Name" => (k_dflt (refine ld F3 ((if_neg (by decide +kernel)).trans ((if_neg (by decide +kernel)).trans hm)) ?_ rfl rfl))
  k_with "!ite" => (first | (rw [e9, decide_eq_true e, if_pos rfl]) | (rw [e9, decide_eq_false e, if_neg Bool.false_ne_true]))
  by_cases e : y = x
  all_goals k_steps
  · have q := fun tk' => kk h₃ tk' F3 N3
    simp only [if_pos e] at q
    exact q _
  · have q := fun tk' => kk h₃ tk' F3 N3
    simp only [if_neg e] at q
    exact q _
noncomputable abbrev GItem := Addr × String × Tok × Str × Tok
noncomputable def gTup (p : GItem) : Addr × Obj := (p.1, { cls := .type "tuple", data := .seq [.str (Str.ofString p.2.1) p.2.2.1, .str p.2.2.2.1 p.2.2.2.2].toArray })
theorem get_rest {w : World} {mean : ExcName → Option Value} {mg mb : Str → Option Value} {dp un : Nat} {gd : Option (List Code)} {outer : List Env} {A₀ : Around} {base h₀ : Heap} {L : Addr} {s : Shared} {E : Value → Shared → Prop} {Q : Flow → Shared → Prop} {rl I a : Addr} {rlo : Obj} {x : String} {t tx u : Tok} {v : Str} {all : List (Addr × Obj)}
    (B : Below A₀ base outer h₀) (X : (KF w.params).In h₀) (T : Top topProg LN mean mg mb h₀) (hx : x ∈ nineG) (hrl : (rl, rlo) ∈ all) (hI : ∀ p ∈ all, p.1 ≠ I)
    (fin : ∀ m' h tk, Fr h₀ L h m' → News h₀ L h all → Q (.ret (.str v u)) { s with heap := h, toks := tk }) :
    ∀ (items : List GItem) (m : Str → Option Value), (∀ p ∈ items, p.2.1 ∈ nineG ∧ gTup p ∈ all) → (items.map (·.2.1)).Nodup → (a, x, t, v, u) ∈ items → m (Str.ofString "name") = some (.str (Str.ofString x) tx) →
      ItemsRest PW w (ktrTop dp un gd (Str.ofString "Headers.get") M8.scope L 216 (.ref 215) [] outer) E h₀ (envOf (Str.ofString "Headers.get") M8.scope L 216 (.ref 215)) gP.1 gP.2 Q s [(I, "list_iterator")] [(rl, rlo)] (items.map fun p => Itm.val (.ref p.1)) m all
  | [], _, _, _, hmem, _ => nomatch hmem
  | (b, y, ty, v', tv) :: items, m, hok, hnd, hmem, hm => by
    refine ItemsRest.val fun h tk F => AllObj.cons fun o ho => AllObj.nil fun N => ?_
    obtain ⟨hy, hT⟩ := hok _ (.head _)
    rw [List.map_cons, List.nodup_cons] at hnd
    have hb : IsTup h b #[.str (Str.ofString y) ty, .str v' tv] := ⟨_, (N _ (.tail _ hT)).1, rfl, _, rfl⟩
    refine gturn (m := m) (s := { s with heap := h, toks := tk }) B F X N hx hy T hm hb fun h' tk' F' N' => ?_
    by_cases e : y = x
    · rw [if_pos e]
      rcases List.mem_cons.mp hmem with q | q
      · cases q
        exact fin _ _ _ F' fun p hp => N' p (.tail _ hp)
      · have q2 := List.mem_map_of_mem (f := fun p : GItem => p.2.1) q
        exact absurd (by rw [e]; exact q2) hnd.1
    · rw [if_neg e]
      refine ⟨h', tk', _, all, rfl, F', N', fun p hp q hq => ?_, ⟨hrl, trivial⟩, ?_⟩
      · rcases List.mem_cons.mp hq with rfl | hq
        · exact hI p hp
        · cases hq
      · refine get_rest (a := a) (t := t) (tx := tx) B X T hx hrl hI fin items _ (fun p hp => hok p (.tail _ hp)) hnd.2 ?_ ?_
        · rcases List.mem_cons.mp hmem with q | q
          · cases q; exact absurd rfl e
          · exact q
        · rw [if_neg (by decide +kernel), if_neg (by decide +kernel)]; exact hm
theorem get_loop {w : World} {mean : ExcName → Option Value} {mg mb : Str → Option Value} {dp un : Nat} {gd : Option (List Code)} {outer : List Env} {A₀ : Around} {base h₀ : Heap} {L : Addr} {s : Shared} {m : Str → Option Value} {E : Value → Shared → Prop} {Q : Flow → Shared → Prop} {rl a : Addr} {ln : Nat} {x : String} {t tx u : Tok} {v : Str} {all : List (Addr × Obj)} (items : List GItem)
    (B : Below A₀ base outer h₀) (X : (KF w.params).In h₀) (T : Top topProg LN mean mg mb h₀) (F : Fr h₀ L s.heap m) (N : News h₀ L s.heap all) (hx : x ∈ nineG) (hrl : (rl, W.listOf (items.map fun p => Value.ref p.1).toArray ln) ∈ all)
    (hok : ∀ p ∈ items, p.2.1 ∈ nineG ∧ gTup p ∈ all) (hnd : (items.map (·.2.1)).Nodup) (hmem : (a, x, t, v, u) ∈ items) (hm : m (Str.ofString "name") = some (.str (Str.ofString x) tx))
    (fin : ∀ m' h tk, Fr h₀ L h m' → News h₀ L h all → Q (.ret (.str v u)) { s with heap := h, toks := tk }) :
    wpAny (model PW w) (ktrTop dp un gd (Str.ofString "Headers.get") M8.scope L 216 (.ref 215) [] outer) (pyIter (.ref rl)) (fun it s₂ => TurnsAt PW w (ktrTop dp un gd (Str.ofString "Headers.get") M8.scope L 216 (.ref 215) [] outer) h₀ (envOf (Str.ofString "Headers.get") M8.scope L 216 (.ref 215)) gP.1 gP.2 Q E it s₂) E s := by
  refine iter_listTurns (m₀ := m) (vs := items.map fun p => Value.ref p.1) rfl F N hrl rfl rfl fun I hI => ?_
  rw [List.map_map]
  exact get_rest B X T hx hrl (fun p hp => Nat.ne_of_lt (hI p hp)) fin items m hok hnd hmem hm
theorem get_any {w : World} {pg dx l a : Addr} {hs : Int} {tt : Tok} {ln : Nat} {XX : Str} {x : String} {t u tv : Tok} {v : Str} {R : List (Addr × Obj)} (items : List GItem) {mean : ExcName → Option Value} {mg mb : Str → Option Value} {dp un : Nat} {gd : Option (List Code)} {cn : Str} {cs : Scope} {aa : Addr} {ccd : Value} {cl : List (Str × Addr)} {outer : List Env} {A₀ : Around} {base h₀ : Heap} {L : Addr} {m : Str → Option Value} {s : Shared} {Q E : Value → Shared → Prop} {rest : List (Addr × Obj)}
    (B : Below A₀ base outer h₀) (F : Fr h₀ L s.heap m) (X : (KF w.params).In h₀) (N : News h₀ L s.heap ((pg, pgObj dx) :: (dx, pgDict hs tt l) :: (l, W.listOf (items.map fun p => Value.ref p.1).toArray ln) :: R)) (NR : News h₀ L s.heap rest) (off : ∀ p ∈ rest, p.1 ∉ ((pg, pgObj dx) :: (dx, pgDict hs tt l) :: (l, W.listOf (items.map fun p => Value.ref p.1).toArray ln) :: R).map (·.1)) (T : Top topProg LN mean mg mb h₀) (hk : cs.kind = .function) (hd : dp + 3 < recursionLimit) (hu : un + 24 < cLine)
    (hx : x ∈ nineG) (eX : Txt.lower XX = Str.ofString x) (lX : XX.length = 2) (hok : ∀ p ∈ items, p.2.1 ∈ nineG ∧ gTup p ∈ R) (hnd : (items.map (·.2.1)).Nodup) (hmem : (a, x, tv, v, u) ∈ items)
    (hret : ∀ h' tk', Fr h₀ L h' m → News h₀ L h' ((pg, pgObj dx) :: (dx, pgDict hs tt l) :: (l, W.listOf (items.map fun p => Value.ref p.1).toArray ln) :: R) → News h₀ L h' rest → Q (.str v u) { s with heap := h', toks := tk' }) :
    wpAny (model PW w) (ktrTop dp un gd cn cs L aa ccd cl outer) (call (.ref 216) [.ref pg, .str XX t]) Q E s := by
  k_with_none
  k_with "call builtin:str.lower" => (refine lowN eX lX ?_)
  k_with "call ref" => (k_dflt (refine' use_W (conv_n _ _ _ ?hp) ?k1 ?k2 ?k3 ?k4 ?k5 ?kK ?kd ?ku ?_; (case hp => exact pk_n (low9 x hx).2.2); (case k1 => k_asm); (case k2 => k_asm); (case k3 => k_asm); (case k4 => k_asm); (case k5 => k_asm); (case kK => first | exact rfl | assumption); (case kd => ktr_room); (case ku => ktr_units)); intro t9 h9 tk9 F9 N9; (try dsimp only); (try k_fold))
  k_with "exec For Tuple Attribute cons nil" => ((rename Fr _ _ _ _ => lF'); (with_unfolding_all refine' For_turns lF' ?_; k_whole))
  k_with "!pyIter ref" => (k_dflt (refine' get_loop items ?k1 ?k3 ?k5 ?k2 ?k4 hx ?hrl ?hok hnd hmem ?hm ?_; (case k1 => k_asm); (case k2 => k_asm); (case k3 => k_asm); (case k4 => k_asm); (case k5 => k_asm); (case hrl => k_mem); (case hok => exact fun p hp => ⟨(hok p hp).1, .tail _ (.tail _ (.tail _ (hok p hp).2))⟩); (case hm => exact rfl)); intro m8 h8 tk8 F8 N8)
  refine wpAny_call ?_
  k_dflt (refine' code_defPF (rest := rest) ?k1 ?k2 ?k3 ?k4 ?kr1 ?kr2 ?k5 ?kA ?kF ?kK ?k6 ?k7 ?k8 ?k9 ?kB ?_ ?c2 ?c3 ?c4 ?c5; (case kA => exact rfl); (case kF => exact rfl); (case kK => first | exact rfl | assumption); (case k1 => k_asm); (case k2 => k_asm); (case k3 => k_asm); (case k4 => exact N); (case kr1 => exact NR); (case kr2 => exact off); (case k5 => k_asm); (case k6 => k_is); (case k7 => k_is); (case k8 => ktr_room); (case k9 => first | exact BindsTo.of_eq rfl | exact binds_K (by k_in) rfl (by k_is) rfl rfl rfl); (case c5 => decide); (case kB => exact locs rfl); (case c2 => exact rfl); (case c3 => exact rfl); (case c4 => exact rfl); k_whole; intro g' L' h' HB FG' F' N' B' X' T' l1 LR; (try dsimp only); (try k_lift B'); (try k_fold); refine fold_ae ?_; intro eK AK)
  k_steps
  all_goals (unfold RestR; dsimp only; rename News _ _ _ _ => kN9; intro NR'; exact hret _ _ (by k_asm) (by k_asm) NR')
end Mine
end

section
set_option Elab.async false
set_option maxRecDepth 100000
namespace Mine.Plain
/-- three minds; none: never. known: where a mind that walks into the prefix comes back; told: the rule at this sign. -/
noncomputable def out (known : Fin 3 → Option (Fin 3)) (told : Fin 3 → Fin 3 × Bool) : Nat → Option (Fin 3) → Option (Fin 3)
  | 0, _ => none
  | _ + 1, none => none
  | n + 1, some m => if (told m).2 then some (told m).1 else out known told n (known (told m).1)

noncomputable def f3 {α : Type} (a b c : α) (m : Fin 3) : α := if m = 0 then a else if m = 1 then b else c
theorem f3_eta {α : Type} (f : Fin 3 → α) : f3 (f 0) (f 1) (f 2) = f := by
  funext m
  match m with
  | 0 => rfl
  | 1 => rfl
  | 2 => rfl

/-- the way inside: none when the sign leads to the right, else the mind that comes back -/
noncomputable def back (known : Fin 3 → Option (Fin 3)) (told : Fin 3 → Fin 3 × Bool) (m : Fin 3) : Option (Fin 3) := known (told m).1

noncomputable def opts : List (Option (Fin 3)) := [none, some 0, some 1, some 2]
noncomputable def tolds : List (Option (Option (Fin 3))) := [none, some none, some (some 0), some (some 1), some (some 2)]
/-- the same on what one sign does with one mind: none: it leaves to the right -/
noncomputable def go (nx : Fin 3 → Option (Option (Fin 3))) : Nat → Option (Fin 3) → Option (Fin 3)
  | 0, _ => none
  | _ + 1, none => none
  | n + 1, some m => match nx m with
    | none => some m
    | some r => go nx n r
theorem go_fin : ∀ a ∈ tolds, ∀ b ∈ tolds, ∀ c ∈ tolds, ∀ m ∈ opts, go (f3 a b c) 4 m = go (f3 a b c) 3 m := by decide +kernel
theorem mem_tolds (x : Option (Option (Fin 3))) : x ∈ tolds := by
  match x with
  | none => decide
  | some none => decide
  | some (some 0) => decide
  | some (some 1) => decide
  | some (some 2) => decide
theorem mem_opts (x : Option (Fin 3)) : x ∈ opts := by
  match x with
  | none => decide
  | some 0 => decide
  | some 1 => decide
  | some 2 => decide
theorem go_43 (nx) (m) : go nx 4 m = go nx 3 m := by
  rw [← f3_eta nx]
  exact go_fin _ (mem_tolds _) _ (mem_tolds _) _ (mem_tolds _) _ (mem_opts _)
theorem go_up (nx) : ∀ n m, go nx (n + 4) m = go nx (n + 3) m
  | 0, m => go_43 nx m
  | n + 1, none => rfl
  | n + 1, some m => by
    show (match nx m with | none => some m | some r => go nx (n + 4) r) = (match nx m with | none => some m | some r => go nx (n + 3) r)
    cases nx m with
    | none => rfl
    | some r => exact go_up nx n r
/-- three turns are enough -/
theorem go_3 (nx) (m) : ∀ n, go nx (n + 3) m = go nx 3 m
  | 0 => rfl
  | n + 1 => (go_up nx n m).trans (go_3 nx m n)
/-- the code's out by go: the mind at which it leaves, told once more -/
theorem out_go (known told) : ∀ n m, out known told n m = (go (fun m => if (told m).2 then none else some (known (told m).1)) n m).map fun m => (told m).1
  | 0, _ => rfl
  | _ + 1, none => rfl
  | n + 1, some m => by
    show (if (told m).2 = true then some (told m).1 else out known told n (known (told m).1)) = _
    simp only [go]
    by_cases h : (told m).2 = true
    · simp [h]
    · simp [h, out_go known told n]
theorem out_3 (known told m n) : out known told (n + 3) m = out known told 3 m := by
  rw [out_go, out_go, go_3]
end Mine.Plain
end

section
set_option Elab.async false
namespace Mine.Plain
noncomputable abbrev Told := Fin 3 → Fin 3 × Bool
noncomputable abbrev Conf := Fin 3 × Nat
noncomputable def step (t : Nat → Told) (c : Conf) : Conf := ((t c.2 c.1).1, if (t c.2 c.1).2 then c.2 + 1 else c.2 - 1)
noncomputable def it (t : Nat → Told) : Nat → Conf → Conf
  | 0, c => c
  | k + 1, c => it t k (step t c)
theorem it_add (t) : ∀ j k c, it t (j + k) c = it t k (it t j c)
  | 0, k, c => by rw [Nat.zero_add]; rfl
  | j + 1, k, c => by rw [Nat.succ_add]; exact it_add t j k (step t c)
/-- k steps lead from c to (m', i), and never at i before -/
noncomputable def Path (t : Nat → Told) (i k : Nat) (c : Conf) (m' : Fin 3) : Prop := it t k c = (m', i) ∧ ∀ j < k, (it t j c).2 < i
noncomputable def Leaves (t : Nat → Told) (i : Nat) (c : Conf) (m' : Fin 3) : Prop := ∃ k, Path t i k c m'
theorem path_same {t i k k' c m m'} (h : Path t i k c m) (h' : Path t i k' c m') : k = k' ∧ m = m' := by
  have e : k = k' := by
    rcases Nat.lt_trichotomy k k' with l | l | l
    · have := h'.2 k l; rw [h.1] at this; exact absurd this (Nat.lt_irrefl _)
    · exact l
    · have := h.2 k' l; rw [h'.1] at this; exact absurd this (Nat.lt_irrefl _)
  subst e
  exact ⟨rfl, congrArg Prod.fst (h.1.symm.trans h'.1)⟩
theorem path_join {t i k k' c m r m'} (h : Path t i k c r) (h' : Path t (i + 1) k' (r, i) m') (_ : m = m') : Path t (i + 1) (k + k') c m' := by
  refine ⟨by rw [it_add, h.1]; exact h'.1, fun j l => ?_⟩
  by_cases q : j < k
  · exact Nat.lt_succ_of_lt (h.2 j q)
  · obtain ⟨d, rfl⟩ := Nat.exists_eq_add_of_le (Nat.le_of_not_lt q)
    rw [it_add, h.1]
    exact h'.2 d (by omega)
theorem path_cons {t i k c m'} (h : Path t i k (step t c) m') (l : c.2 < i) : Path t i (k + 1) c m' :=
  ⟨h.1, fun j q => by cases j with
    | zero => exact l
    | succ j => exact h.2 j (by omega)⟩
/-- what the code keeps of the prefix of i signs -/
noncomputable def kn (t : Nat → Told) : Nat → Fin 3 → Option (Fin 3)
  | 0, _ => none
  | i + 1, j => out (kn t i) (t i) 3 (some j)
theorem out_path {t : Nat → Told} {i : Nat} (H0 : ∀ m, (t 0 m).2 = true) (ih : ∀ g r, kn t i g = some r → Leaves t i (g, i - 1) r) :
    ∀ n m m', out (kn t i) (t i) n (some m) = some m' → Leaves t (i + 1) (m, i) m'
  | 0, _, _, h => by cases h
  | n + 1, m, m', h => by
    simp only [out] at h
    by_cases q : (t i m).2 = true
    · rw [if_pos q] at h
      cases h
      exact ⟨1, by simp [it, step, q], fun j l => by obtain rfl : j = 0 := (by omega); exact Nat.lt_succ_self i⟩
    · rw [if_neg q] at h
      cases e : kn t i (t i m).1 with
      | none => rw [e] at h; cases n <;> cases h
      | some r =>
        rw [e] at h
        obtain ⟨k, p⟩ := ih _ _ e
        obtain ⟨k', p'⟩ := out_path H0 ih n r m' h
        have s : step t (m, i) = ((t i m).1, i - 1) := by simp [step, q]
        exact ⟨_, path_cons (by rw [s]; exact path_join p p' rfl) (Nat.lt_succ_self i)⟩
theorem kn_path {t : Nat → Told} (H0 : ∀ m, (t 0 m).2 = true) : ∀ i g r, kn t i g = some r → Leaves t i (g, i - 1) r
  | 0, _, _, h => by cases h
  | i + 1, g, r, h => out_path H0 (kn_path H0 i) 3 g r h
end Mine.Plain
end

section
set_option Elab.async false
namespace Mine.Plain
theorem path_tail {t i k c m'} (h : Path t i (k + 1) c m') : Path t i k (step t c) m' :=
  ⟨h.1, fun j l => h.2 (j + 1) (by omega)⟩
theorem step_le (t : Nat → Told) (c : Conf) : (step t c).2 ≤ c.2 + 1 := by
  simp only [step]
  split <;> omega
theorem first_meets {t : Nat → Told} {i : Nat} {m' : Fin 3} : ∀ k (c : Conf), c.2 ≤ i → Path t (i + 1) k c m' → ∃ j d r, k = j + d ∧ Path t i j c r ∧ Path t (i + 1) d (r, i) m'
  | k, c, l, p => by
    by_cases q : c.2 = i
    · obtain ⟨m, a⟩ := c
      simp only at q
      subst q
      exact ⟨0, k, m, by omega, ⟨rfl, fun j l => absurd l (Nat.not_lt_zero _)⟩, p⟩
    · match k, p with
      | 0, p =>
        have := p.1
        simp only [it] at this
        rw [this] at l
        simp only at l
        omega
      | k + 1, p =>
        have s := step_le t c
        obtain ⟨j, d, r, e, a, b⟩ := first_meets k (step t c) (by omega) (path_tail p)
        exact ⟨j + 1, d, r, by omega, path_cons a (by omega), b⟩
theorem path_out {t : Nat → Told} {i : Nat} (H0 : ∀ m, (t 0 m).2 = true) (ih : ∀ g r, Leaves t i (g, i - 1) r → 0 < i → kn t i g = some r) :
    ∀ n k m m', k ≤ n → Path t (i + 1) k (m, i) m' → out (kn t i) (t i) n (some m) = some m'
  | 0, k, m, m', l, p => by
    obtain rfl : k = 0 := by omega
    have := congrArg Prod.snd p.1
    simp only [it] at this
    omega
  | n + 1, 0, m, m', l, p => by
    have := congrArg Prod.snd p.1
    simp only [it] at this
    omega
  | n + 1, k + 1, m, m', l, p => by
    simp only [out]
    have p' := path_tail p
    by_cases q : (t i m).2 = true
    · rw [if_pos q]
      have s : step t (m, i) = ((t i m).1, i + 1) := by simp [step, q]
      rw [s] at p'
      have z : Path t (i + 1) 0 ((t i m).1, i + 1) (t i m).1 := ⟨rfl, fun j l => absurd l (Nat.not_lt_zero _)⟩
      rw [(path_same z p').2]
    · rw [if_neg q]
      have s : step t (m, i) = ((t i m).1, i - 1) := by simp [step, q]
      rw [s] at p'
      have pos : 0 < i := by
        rcases Nat.eq_zero_or_pos i with e | e
        · subst e; exact absurd (H0 m) q
        · exact e
      obtain ⟨j, d, r, e, a, b⟩ := first_meets k _ (by simp only; omega) p'
      rw [ih _ _ ⟨j, a⟩ pos]
      exact path_out H0 ih n d r m' (by omega) b
theorem path_kn {t : Nat → Told} (H0 : ∀ m, (t 0 m).2 = true) : ∀ i g r, Leaves t i (g, i - 1) r → 0 < i → kn t i g = some r
  | 0, _, _, _, l => absurd l (Nat.lt_irrefl _)
  | i + 1, g, r, ⟨k, p⟩, _ => by
    have h := path_out H0 (path_kn H0 i) (k + 3) k g r (by omega) p
    rw [out_3] at h
    exact h
/-- (M1) what the code keeps of a prefix is how the walk leaves it -/
theorem kn_iff {t : Nat → Told} (H0 : ∀ m, (t 0 m).2 = true) (i : Nat) (g r : Fin 3) : kn t (i + 1) g = some r ↔ Leaves t (i + 1) (g, i) r :=
  ⟨kn_path H0 (i + 1) g r, fun h => path_kn H0 (i + 1) g r h (Nat.succ_pos i)⟩
end Mine.Plain
end

section
set_option Elab.async false
namespace Mine.Plain
/-- known[0]: the mind at the first arrival behind i signs, from p at the tape's start -/
noncomputable def fs (t : Nat → Told) : Nat → Option (Fin 3)
  | 0 => some 0
  | i + 1 => out (kn t i) (t i) 3 (fs t i)
theorem fs_path {t : Nat → Told} (H0 : ∀ m, (t 0 m).2 = true) : ∀ i r, fs t i = some r → Leaves t i (0, 0) r
  | 0, r, h => by
    cases h
    exact ⟨0, rfl, fun j l => absurd l (Nat.not_lt_zero _)⟩
  | i + 1, r, h => by
    simp only [fs] at h
    cases e : fs t i with
    | none => rw [e] at h; cases h
    | some m =>
      rw [e] at h
      obtain ⟨k, p⟩ := fs_path H0 i m e
      obtain ⟨k', p'⟩ := out_path H0 (kn_path H0 i) 3 m r h
      exact ⟨_, path_join p p' rfl⟩
theorem path_fs {t : Nat → Told} (H0 : ∀ m, (t 0 m).2 = true) : ∀ i r, Leaves t i (0, 0) r → fs t i = some r
  | 0, r, ⟨k, p⟩ => by
    have z : Path t 0 0 (0, 0) 0 := ⟨rfl, fun j l => absurd l (Nat.not_lt_zero _)⟩
    rw [← (path_same z p).2]
    rfl
  | i + 1, r, ⟨k, p⟩ => by
    obtain ⟨j, d, m, e, a, b⟩ := first_meets k (0, 0) (Nat.zero_le _) p
    have f := path_fs H0 i m ⟨j, a⟩
    have h := path_out H0 (path_kn H0 i) (d + 3) d m r (by omega) b
    rw [out_3] at h
    simp only [fs, f]
    exact h
/-- (M1) the first mind behind i signs -/
theorem fs_iff {t : Nat → Told} (H0 : ∀ m, (t 0 m).2 = true) (i : Nat) (r : Fin 3) : fs t i = some r ↔ Leaves t i (0, 0) r :=
  ⟨fs_path H0 i r, path_fs H0 i r⟩
/-- what is kept of a tape stands on its signs ahead of i alone -/
theorem kn_congr {t t' : Nat → Told} : ∀ i, (∀ j < i, t j = t' j) → kn t i = kn t' i
  | 0, _ => rfl
  | i + 1, h => by
    funext j
    simp only [kn, kn_congr i (fun j l => h j (by omega)), h i (by omega)]
theorem fs_congr {t t' : Nat → Told} : ∀ i, (∀ j < i, t j = t' j) → fs t i = fs t' i
  | 0, _ => rfl
  | i + 1, h => by simp only [fs, kn_congr i (fun j l => h j (by omega)), h i (by omega), fs_congr i (fun j l => h j (by omega))]
/-- (M4) where the same is kept behind i and behind j signs, the signs between may be cut -/
theorem cut_same {t u : Nat → Told} {i j : Nat} (hk : kn u i = kn t j) (hf : fs u i = fs t j) (hs : ∀ k, u (i + k) = t (j + k)) :
    ∀ k, kn u (i + k) = kn t (j + k) ∧ fs u (i + k) = fs t (j + k)
  | 0 => ⟨hk, hf⟩
  | k + 1 => by
    obtain ⟨a, b⟩ := cut_same hk hf hs k
    refine ⟨?_, ?_⟩
    · funext m
      show out (kn u (i + k)) (u (i + k)) 3 _ = out (kn t (j + k)) (t (j + k)) 3 _
      rw [a, hs]
    · show out (kn u (i + k)) (u (i + k)) 3 (fs u (i + k)) = out (kn t (j + k)) (t (j + k)) 3 (fs t (j + k))
      rw [a, hs, b]
end Mine.Plain
end

section
set_option Elab.async false
namespace Mine.Plain
theorem pigeon : ∀ (n k : Nat) (f : Nat → Nat), (∀ i < k, f i < n) → (∀ i j, i < k → j < k → f i = f j → i = j) → k ≤ n
  | 0, 0, _, _, _ => Nat.le_refl _
  | 0, k + 1, f, h, _ => absurd (h 0 (Nat.succ_pos k)) (Nat.not_lt_zero _)
  | n + 1, 0, _, _, _ => Nat.zero_le _
  | n + 1, k + 1, f, h, inj => by
    have := pigeon n k (fun i => if f i = n then f k else f i) (fun i l => by
      have a := h i (by omega)
      have b := h k (by omega)
      try simp only
      split
      · rename_i e
        have : f k ≠ n := fun e' => by have := inj i k (by omega) (by omega) (e.trans e'.symm); omega
        omega
      · omega) (fun i j li lj e => by
      try simp only at e
      split at e <;> split at e
      · rename_i a b; exact inj i j (by omega) (by omega) (a.trans b.symm)
      · have := inj k j (by omega) (by omega) e; omega
      · have := inj i k (by omega) (by omega) e; omega
      · exact inj i j (by omega) (by omega) e)
    omega
theorem it_period {t : Nat → Told} {c : Conf} {a b : Nat} (h : it t a c = it t b c) (d : Nat) : it t (a + d) c = it t (b + d) c := by
  rw [it_add, it_add, h]
/-- (M2) a walk that leaves does so in 3 n steps -/
theorem path_bound {t : Nat → Told} {n k : Nat} {c : Conf} {m' : Fin 3} (p : Path t n k c m') : k ≤ 3 * n := by
  have key : ∀ i j, i < j → j < k → it t i c = it t j c → False := fun i j l lj e => by
    have q := it_period e (k - j)
    rw [show j + (k - j) = k by omega, p.1] at q
    have := p.2 (i + (k - j)) (by omega)
    rw [q] at this
    exact Nat.lt_irrefl _ this
  refine pigeon (3 * n) k (fun i => 3 * (it t i c).2 + (it t i c).1.val) (fun i l => ?_) (fun i j li lj e => ?_)
  · have a := p.2 i l
    have b := (it t i c).1.isLt
    try simp only
    omega
  · try simp only at e
    have b := (it t i c).1.isLt
    have b' := (it t j c).1.isLt
    have e2 : it t i c = it t j c := Prod.ext (Fin.ext (by omega)) (by omega)
    rcases Nat.lt_trichotomy i j with l | l | l
    · exact (key i j l lj e2).elim
    · exact l
    · exact (key j i l li e2.symm).elim
end Mine.Plain
end

section
set_option Elab.async false
namespace Mine.Plain
/-- the code's loop over f steps, without firsts: the mind at which it reaches n -/
noncomputable def loop (t : Nat → Told) (n : Nat) : Nat → Conf → Option (Fin 3)
  | 0, _ => none
  | f + 1, c => if (step t c).2 = n then some (step t c).1 else loop t n f (step t c)
theorem loop_some {t : Nat → Told} {n : Nat} : ∀ f (c : Conf) m', c.2 < n → loop t n f c = some m' → ∃ k ≤ f, Path t n k c m'
  | 0, _, _, _, h => by cases h
  | f + 1, c, m', l, h => by
    simp only [loop] at h
    have sl := step_le t c
    split at h
    · rename_i e
      cases h
      exact ⟨1, by omega, Prod.ext rfl e, fun j q => by obtain rfl : j = 0 := (by omega); exact l⟩
    · rename_i e
      obtain ⟨k, lk, p⟩ := loop_some f (step t c) m' (by omega) h
      exact ⟨k + 1, by omega, path_cons p l⟩
theorem loop_path {t : Nat → Told} {n : Nat} : ∀ f k (c : Conf) m', k ≤ f → c.2 < n → Path t n k c m' → loop t n f c = some m'
  | f, 0, c, m', _, l, p => by
    have := congrArg Prod.snd p.1
    simp only [it] at this
    omega
  | 0, k + 1, _, _, lk, _, _ => by omega
  | f + 1, k + 1, c, m', lk, l, p => by
    have p' := path_tail p
    simp only [loop]
    split
    · rename_i e
      have z : Path t n 0 (step t c) (step t c).1 := ⟨Prod.ext rfl e, fun j l => absurd l (Nat.not_lt_zero _)⟩
      rw [(path_same z p').2]
    · rename_i e
      have sl := step_le t c
      exact loop_path f k _ _ (by omega) (by omega) p'
/-- the code's loop with its bound answers how the walk leaves -/
theorem loop_iff {t : Nat → Told} {n : Nat} {c : Conf} {m' : Fin 3} (l : c.2 < n) : loop t n (3 * n) c = some m' ↔ Leaves t n c m' :=
  ⟨fun h => let ⟨k, _, p⟩ := loop_some _ _ _ l h; ⟨k, p⟩, fun ⟨k, p⟩ => loop_path _ k c m' (path_bound p) l p⟩
end Mine.Plain
end

section
set_option Elab.async false
namespace Mine.Plain
theorem opt_ext {α : Type} {a b : Option α} (h : ∀ r, a = some r ↔ b = some r) : a = b := by
  cases a with
  | none => cases b with
    | none => rfl
    | some y => exact absurd ((h y).mpr rfl) (by simp)
  | some x => exact ((h x).mp rfl).symm
/-- the walk's end is the last number's first place -/
theorem loop_fs {t : Nat → Told} (H0 : ∀ m, (t 0 m).2 = true) {n : Nat} (l : 0 < n) : loop t n (3 * n) (0, 0) = fs t n :=
  opt_ext fun r => (loop_iff l).trans (fs_iff H0 n r).symm
theorem loop_kn {t : Nat → Told} (H0 : ∀ m, (t 0 m).2 = true) {n : Nat} (j : Fin 3) : loop t (n + 1) (3 * (n + 1)) (j, n) = kn t (n + 1) j :=
  opt_ext fun r => (loop_iff (Nat.lt_succ_self n)).trans (kn_iff H0 n j r).symm
/-- the code's loop with firsts -/
noncomputable def loopF (t : Nat → Told) (n : Nat) : Nat → Conf → List (Fin 3) → Option (Fin 3) × List (Fin 3)
  | 0, _, F => (none, F)
  | f + 1, c, F =>
    let c' := step t c
    let F' := if c'.2 > F.length then F ++ [c'.1] else F
    if c'.2 = n then (some c'.1, F') else loopF t n f c' F'
theorem loopF_fst (t : Nat → Told) (n : Nat) : ∀ f c F, (loopF t n f c F).1 = loop t n f c
  | 0, _, _ => rfl
  | f + 1, c, F => by
    simp only [loopF, loop]
    split
    · rfl
    · exact loopF_fst t n f _ _
end Mine.Plain
end

section
set_option Elab.async false
namespace Mine.Plain
theorem it_succ (t : Nat → Told) (k : Nat) (c : Conf) : it t (k + 1) c = step t (it t k c) := it_add t k 1 c
noncomputable def Inv (t : Nat → Told) (k : Nat) (F : List (Fin 3)) : Prop :=
  (∀ i < F.length, fs t (i + 1) = F[i]?) ∧ ∀ j ≤ k, (it t j (0, 0)).2 ≤ F.length
theorem inv_step {t : Nat → Told} (H0 : ∀ m, (t 0 m).2 = true) {k : Nat} {F : List (Fin 3)} (v : Inv t k F) :
    Inv t (k + 1) (if (it t (k + 1) (0, 0)).2 > F.length then F ++ [(it t (k + 1) (0, 0)).1] else F) := by
  have s := step_le t (it t k (0, 0))
  rw [← it_succ] at s
  have b := v.2 k (Nat.le_refl k)
  split
  · rename_i q
    have e : (it t (k + 1) (0, 0)).2 = F.length + 1 := by omega
    have p : Path t (F.length + 1) (k + 1) (0, 0) (it t (k + 1) (0, 0)).1 := ⟨Prod.ext rfl e, fun j l => by have := v.2 j (by omega); omega⟩
    refine ⟨fun i l => ?_, fun j l => ?_⟩
    · simp only [List.length_append, List.length_cons, List.length_nil] at l
      by_cases q : i < F.length
      · rw [List.getElem?_append_left q]; exact v.1 i q
      · obtain rfl : i = F.length := by omega
        rw [path_fs H0 _ _ ⟨_, p⟩]
        simp
    · simp only [List.length_append, List.length_cons, List.length_nil]
      by_cases q : j ≤ k
      · have := v.2 j q; omega
      · obtain rfl : j = k + 1 := by omega
        omega
  · rename_i q
    refine ⟨v.1, fun j l => ?_⟩
    by_cases q : j ≤ k
    · exact v.2 j q
    · obtain rfl : j = k + 1 := by omega
      omega
end Mine.Plain
end

section
set_option Elab.async false
namespace Mine.Plain
/-- (M3) firsts: the first minds behind 1, 2, .. signs, as far as the walk comes -/
theorem loopF_snd {t : Nat → Told} (H0 : ∀ m, (t 0 m).2 = true) {n : Nat} : ∀ f k F, k + f = 3 * n → F.length < n → Inv t k F →
    (∀ i < (loopF t n f (it t k (0, 0)) F).2.length, fs t (i + 1) = (loopF t n f (it t k (0, 0)) F).2[i]?) ∧
    ((loopF t n f (it t k (0, 0)) F).2.length = n ∨ (loopF t n f (it t k (0, 0)) F).2.length < n ∧ fs t ((loopF t n f (it t k (0, 0)) F).2.length + 1) = none)
  | 0, k, F, e, l, v => by
    refine ⟨v.1, Or.inr ⟨l, ?_⟩⟩
    show fs t (F.length + 1) = none
    cases h : fs t (F.length + 1) with
    | none => rfl
    | some r =>
      obtain ⟨d, p⟩ := fs_path H0 _ _ h
      have b := path_bound p
      have q := v.2 d (by omega)
      rw [p.1] at q
      simp only at q
      omega
  | f + 1, k, F, e, l, v => by
    have w := inv_step H0 v
    have s := step_le t (it t k (0, 0))
    have b := v.2 k (Nat.le_refl k)
    simp only [loopF]
    rw [← it_succ] at s ⊢
    generalize hF : (if (it t (k + 1) (0, 0)).2 > F.length then F ++ [(it t (k + 1) (0, 0)).1] else F) = F' at w ⊢
    have len : F'.length ≤ F.length + 1 := by
      rw [← hF]; split <;> simp
    by_cases q : (it t (k + 1) (0, 0)).2 = n
    · rw [if_pos q]
      have := w.2 (k + 1) (Nat.le_refl _)
      exact ⟨w.1, Or.inl (by simp only; omega)⟩
    · rw [if_neg q]
      refine loopF_snd H0 f (k + 1) F' (by omega) ?_ w
      rw [← hF]
      split
      · simp only [List.length_append, List.length_cons, List.length_nil]; omega
      · exact l
end Mine.Plain
end

section
set_option Elab.async false
namespace Mine.Plain
/-- a mind as the code's figure: 0 never, 1 p, 2 q, 3 r -/
noncomputable def enc : Option (Fin 3) → Nat
  | none => 0
  | some m => m.val + 1
theorem enc_lt (o : Option (Fin 3)) : enc o < 4 := by
  cases o with
  | none => decide
  | some m => have := m.isLt; simp only [enc]; omega
theorem enc_inj {a b : Option (Fin 3)} (h : enc a = enc b) : a = b := by
  cases a <;> cases b <;> simp only [enc] at h
  · rfl
  · omega
  · omega
  · exact congrArg some (Fin.ext (by omega))
/-- the number behind i signs -/
noncomputable def num (t : Nat → Told) (i : Nat) : Nat := enc (fs t i) + 4 * enc (kn t i 0) + 16 * enc (kn t i 1) + 64 * enc (kn t i 2)
theorem num_inj {t u : Nat → Told} {i j : Nat} (h : num t i = num u j) : fs t i = fs u j ∧ kn t i = kn u j := by
  have a := enc_lt (fs t i); have b := enc_lt (kn t i 0); have c := enc_lt (kn t i 1); have d := enc_lt (kn t i 2)
  have a' := enc_lt (fs u j); have b' := enc_lt (kn u j 0); have c' := enc_lt (kn u j 1); have d' := enc_lt (kn u j 2)
  simp only [num] at h
  refine ⟨enc_inj (by omega), ?_⟩
  rw [← f3_eta (kn t i), ← f3_eta (kn u j), enc_inj (a := kn t i 0) (b := kn u j 0) (by omega), enc_inj (a := kn t i 1) (b := kn u j 1) (by omega), enc_inj (a := kn t i 2) (b := kn u j 2) (by omega)]
end Mine.Plain
end

section
open PySem PySem.W PyProof.Rows PySem.Spec PySem.Calls
set_option Elab.async false
set_option maxRecDepth 100000
namespace Mine
theorem kwn_WD : True := by
  k_with_none
  trivial
theorem fillWD : RW = RW ∧ KF = KF := by
  k_fill
  exact ⟨rfl, rfl⟩
set_option maxHeartbeats 0
set_option rowWalk.seconds 0
noncomputable def mL (m : Fin 3) : Str := match m with | 0 => Str.ofString "p" | 1 => Str.ofString "q" | 2 => Str.ofString "r"
noncomputable def sC (c : Fin 3) : Nat := match c with | 0 => 102 | 1 => 105 | 2 => 46
noncomputable def LW (g : Int) : Str := if g = 1 then Str.ofString "p" else if g = 2 then Str.ofString "q" else Str.ofString "r"
noncomputable def pick {α : Type} (x0 x1 x2 x3 x4 x5 x6 x7 x8 : α) (m c : Fin 3) : α := match m, c with
  | 0, 0 => x0 | 0, 1 => x1 | 1, 0 => x2 | 1, 1 => x3 | 2, 0 => x4 | 2, 1 => x5 | 0, 2 => x6 | 1, 2 => x7 | 2, 2 => x8
theorem fin3 (m : Fin 3) : m = 0 ∨ m = 1 ∨ m = 2 := by revert m; decide
theorem costPV {w : World} {news : List (Addr × Obj)} {g d : Int} (t u : Tok) : CallOk w 123 [.str (PV g d) t, .str (LW g) u] 1 news (fun t => .int (if d = 0 then 0 else 1) t) := by
  unfold PV LW
  split <;> split
  · exact cost_pp t u
  · split
    · exact cost_qq t u
    · exact cost_rr t u
  · exact cost_P t u
  · split
    · exact cost_Qq t u
    · exact cost_Rr t u
theorem lowPV {w : World} {A : Around} {E : Value → Shared → Prop} {s : Shared} {g d : Int} {t : Tok} {Q : Value → Shared → Prop} (h : Q (.str (LW g) s.toks) { s with toks := s.toks + 1 }) : wpAny (model PW w) A (call (.builtin "str.lower") [.str (PV g d) t]) Q E s := by
  have hl : (PV g d).length = 1 := by
    unfold PV
    split <;> split <;> first | rfl | (split <;> rfl)
  refine SCL.lower (by omega) ?_
  intro _
  have e : Txt.lower (PV g d) = LW g := by
    unfold PV LW
    split <;> split <;> first | decide +kernel | (split <;> decide +kernel)
  rw [e]; exact h
theorem iter_rangeN {prog : Program} {w : World} {A : Around} {E : Value → Shared → Prop} {s : Shared} {env : Env} {h₀ : Heap} {x : Str} {body : List Stmt} {Q : Flow → Shared → Prop} {r : Addr} {b₀ : Int} {t₀ u₀ v₀ : Tok} {n : Nat} {m₀ : Str → Option Value} {news : List (Addr × Obj)}
    (J : Nat → (Str → Option Value) → List (Addr × Obj) → Prop)
    (hh : A.handled = none) (hr : IsRange s.heap r 0 b₀ 1 t₀ u₀ v₀) (hb : b₀ = (n : Int)) (hz : n < 1000) (F : Fr h₀ env.locals s.heap m₀) (N : News h₀ env.locals s.heap news) (hJ : J 0 m₀ news)
    (turn : ∀ i t m₁ nx h tk own, i < n → OwnOff own (news.map (·.1)) → J i m₁ nx → Fr h₀ env.locals h (fun y => if y = x then some (.int (i : Int) t) else m₁ y) → News h₀ env.locals h (nx ++ own) →
      wpAny (model prog w) A (execs body env) (InvPostN h₀ env.locals (J (i + 1)) own (news.map (·.1)) { s with heap := h, toks := tk } Q) E { s with heap := h, toks := tk })
    (done : ∀ m₁ nx h tk, J n m₁ nx → Fr h₀ env.locals h m₁ → News h₀ env.locals h nx → Q .next { s with heap := h, toks := tk }) :
    wpAny (model prog w) A (pyIter (.ref r)) (fun it s₂ => LoopAtV prog w A h₀ env x body Q E it s₂) E s := by
  subst hb
  have hn : Builtin.Range.rangeSize 0 (n : Int) 1 = (n : Int) := by have := rangeSize_nat 0 (n : Int); simpa using this
  refine wpAny_pyIter_range hr (small_one (by omega) (by omega) (by omega) (by omega)) ?_
  have W : Walks prog w A s.heap.objs.size [s.heap.objs.size] [s.heap.objs.size] n (fun i v => i < n ∧ ∃ t, v = .int (0 + i * 1) t)
      (fun i h => IsRangeIter h s.heap.objs.size (0 + (i : Nat) * 1) ((n : Int) - (i : Nat)) 1) := (Walks.range hh _ 0 1 n).bound
  refine loop_invN J W ?_ ?_ ?_ ?_ (by show IsRangeIter _ _ _ _ _; rw [hn]; simpa using Heap.get?_push_size _ rfl) (F.push _) (fun p hp => ⟨Heap.get?_push_of_some _ (N p hp).1, (N p hp).2⟩) hJ ?_ ?_
  · intro hm
    exact absurd F.ns.lt ((List.mem_singleton.mp hm) ▸ Nat.lt_irrefl _)
  · intro b hb
    rw [List.mem_singleton.mp hb]
    exact next_is_new F
  · intro p hp hI
    exact absurd (Heap.lt_size (N p hp).1) ((List.mem_singleton.mp hI) ▸ Nat.lt_irrefl _)
  · intro p hp hI
    exact absurd (Heap.lt_size (N p hp).1) ((List.mem_singleton.mp hI) ▸ Nat.lt_irrefl _)
  · rintro i v m₁ nx h tk own hin ⟨_, t, rfl⟩ _ hoff hJ' F' N'
    have e : (0 : Int) + (i : Int) * 1 = (i : Int) := by omega
    rw [e] at F'
    exact turn i t m₁ nx h tk own hin hoff hJ' F' N'
  · exact done
noncomputable def lC (m : Fin 3) : Nat := match m with | 0 => 112 | 1 => 113 | 2 => 114
noncomputable def fS (F : List (Fin 3)) : Str := ⟨(F.map lC).toArray⟩
theorem mL_eq (m : Fin 3) : mL m = ⟨#[lC m]⟩ := by rcases fin3 m with rfl | rfl | rfl <;> decide +kernel
theorem fS_len (F : List (Fin 3)) : (fS F).length = F.length := by simp [fS, Str.length]
theorem fS_snoc (F : List (Fin 3)) (m : Fin 3) : fS F ++ mL m = fS (F ++ [m]) := by
  rw [mL_eq]
  show Str.mk _ = Str.mk _
  simp [fS]
noncomputable def tg (g : Int) : Fin 3 := if g = 1 then 0 else if g = 2 then 1 else 2
theorem LW_mL (g : Int) : LW g = mL (tg g) := by unfold LW tg; split; rfl; split <;> rfl
noncomputable def tapeS (sg : List (Fin 3)) : Str := ⟨(sg.map sC).toArray⟩
noncomputable def tabT (gI dI : Fin 3 → Fin 3 → Int) (sg : List (Fin 3)) (p : Nat) : Plain.Told := fun mi => (tg (gI mi (sg.getD p 2)), decide (dI mi (sg.getD p 2) ≠ 0))
theorem at_step {gI dI : Fin 3 → Fin 3 → Int} {sg : List (Fin 3)} {mi : Fin 3} {a : Nat} (h : a = 0 → dI mi (sg.getD a 2) ≠ 0) :
    (a : Int) - 1 + 2 * (if dI mi (sg.getD a 2) = 0 then 0 else 1) = ((Plain.step (tabT gI dI sg) (mi, a)).2 : Int) := by
  simp only [Plain.step, tabT, decide_eq_true_eq]
  by_cases q : dI mi (sg.getD a 2) = 0
  · have : a ≠ 0 := fun e => h e q
    rw [if_pos q, if_neg (fun z => z q)]; omega
  · rw [if_neg q, if_pos q]; omega
theorem join_at {w : World} {A : Around} {E : Value → Shared → Prop} {s : Shared} {h₀ : Heap} {L : Addr} {m : Str → Option Value} {news : List (Addr × Obj)} {t : Sem Value} {Q : Value → Shared → Prop} (_F : Fr h₀ L s.heap m) (_N : News h₀ L s.heap news) (v : Value)
    (h : wpAny (model PW w) A t (fun r s' => ∃ h' tk', r = v ∧ s' = { s with heap := h', toks := tk' } ∧ Fr h₀ L h' m ∧ News h₀ L h' news) E s)
    (k : ∀ h' tk', Fr h₀ L h' m → News h₀ L h' news → Q v { s with heap := h', toks := tk' }) : wpAny (model PW w) A t Q E s :=
  wpAny_mono h (fun r s' ⟨h', tk', e1, e2, F', N'⟩ => by subst e1; subst e2; exact k h' tk' F' N') fun _ _ e => e
theorem map5 {x1 x2 x3 x4 x5 : Str} {m₁ m₀ : Str → Option Value} {v1 v2 v3 v4 : Value} (h2 : m₁ x2 = some v2) (h3 : m₁ x3 = some v3) (h4 : m₁ x4 = some v4) (hm : ∀ z, z ≠ x1 → z ≠ x2 → z ≠ x3 → z ≠ x4 → z ≠ x5 → m₁ z = m₀ z) :
    (fun z => if z = x1 then some v1 else m₁ z) = fun z => if z = x1 then some v1 else if z = x2 then some v2 else if z = x3 then some v3 else if z = x4 then some v4 else if z = x5 then m₁ x5 else m₀ z := by
  funext z
  by_cases e1 : z = x1
  · simp [e1]
  by_cases e2 : z = x2
  · subst e2; simp [h2]
  by_cases e3 : z = x3
  · subst e3; simp [h3, e2]
  by_cases e4 : z = x4
  · subst e4; simp [h4, e2, e3]
  by_cases e5 : z = x5
  · subst e5; simp [e1, e2, e3, e4]
  simp only [if_neg e1, if_neg e2, if_neg e3, if_neg e4, if_neg e5]
  exact hm z e1 e2 e3 e4 e5
end Mine
end

section
open PySem PySem.W PyProof.Rows PySem.Spec PySem.Calls
set_option Elab.async false
set_option maxRecDepth 100000
namespace Mine
theorem kwn_WE : True := by
  k_with_none
  trivial
theorem fillWE : RW = RW ∧ KF = KF := by
  k_fill
  exact ⟨rfl, rfl⟩
set_option maxHeartbeats 0
set_option rowWalk.seconds 0
theorem iter_range3 {prog : Program} {w : World} {A : Around} {E : Value → Shared → Prop} {s : Shared} {env : Env} {h₀ : Heap} {x : Str} {body : List Stmt} {Q : Flow → Shared → Prop} {r : Addr} {b₀ : Int} {t₀ u₀ v₀ : Tok} {n : Nat} {m₀ : Str → Option Value} {news : List (Addr × Obj)} {v2 v3 v4 : Value}
    (x2 x3 x4 x5 : Str) (WI : Nat → Value → Value → Value → Prop)
    (hh : A.handled = none) (hr : IsRange s.heap r 0 b₀ 1 t₀ u₀ v₀) (hb : b₀ = (n : Int)) (hz : n < 1000) (F : Fr h₀ env.locals s.heap m₀) (N : News h₀ env.locals s.heap news) (e2 : m₀ x2 = some v2) (e3 : m₀ x3 = some v3) (e4 : m₀ x4 = some v4) (hw : WI 0 v2 v3 v4)
    (turn : ∀ i t w2 w3 w4 mg h tk own, i < n → OwnOff own (news.map (·.1)) → WI i w2 w3 w4 → Fr h₀ env.locals h (fun z => if z = x then some (.int (i : Int) t) else if z = x2 then some w2 else if z = x3 then some w3 else if z = x4 then some w4 else if z = x5 then mg else m₀ z) → News h₀ env.locals h (news ++ own) →
      wpAny (model prog w) A (execs body env) (InvPostN h₀ env.locals (fun m' nx => nx = news ∧ (∃ w2 w3 w4, m' x2 = some w2 ∧ m' x3 = some w3 ∧ m' x4 = some w4 ∧ WI (i + 1) w2 w3 w4) ∧ ∀ z, z ≠ x → z ≠ x2 → z ≠ x3 → z ≠ x4 → z ≠ x5 → m' z = m₀ z) own (news.map (·.1)) { s with heap := h, toks := tk } Q) E { s with heap := h, toks := tk })
    (done : ∀ w2 w3 w4 (m₁ : Str → Option Value) h tk, WI n w2 w3 w4 → m₁ x2 = some w2 → m₁ x3 = some w3 → m₁ x4 = some w4 → (∀ z, z ≠ x → z ≠ x2 → z ≠ x3 → z ≠ x4 → z ≠ x5 → m₁ z = m₀ z) → Fr h₀ env.locals h m₁ → News h₀ env.locals h news → Q .next { s with heap := h, toks := tk }) :
    wpAny (model prog w) A (pyIter (.ref r)) (fun it s₂ => LoopAtV prog w A h₀ env x body Q E it s₂) E s := by
  refine iter_rangeN (fun i m' nx => nx = news ∧ (∃ w2 w3 w4, m' x2 = some w2 ∧ m' x3 = some w3 ∧ m' x4 = some w4 ∧ WI i w2 w3 w4) ∧ ∀ z, z ≠ x → z ≠ x2 → z ≠ x3 → z ≠ x4 → z ≠ x5 → m' z = m₀ z) hh hr hb hz F N ⟨rfl, ⟨_, _, _, e2, e3, e4, hw⟩, fun _ _ _ _ _ _ => rfl⟩ ?_ ?_
  · rintro i t m₁ nx h tk own hi hoff ⟨rfl, ⟨w2, w3, w4, f2, f3, f4, hW⟩, hm⟩ F₁ N₁
    rw [map5 f2 f3 f4 hm] at F₁
    exact turn i t w2 w3 w4 _ h tk own hi hoff hW F₁ N₁
  · rintro m₁ nx h tk ⟨rfl, ⟨w2, w3, w4, f2, f3, f4, hW⟩, hm⟩ F₁ N₁
    exact done w2 w3 w4 m₁ h tk hW f2 f3 f4 hm F₁ N₁
noncomputable abbrev stp (t : Nat → Plain.Told) (n : Nat) (res : Option (Fin 3) × List (Fin 3)) (i : Nat) (w2 w3 w4 : Value) : Prop :=
  ∃ (mi : Fin 3) (at' : Nat) (Fs : List (Fin 3)) (t2 t3 t4 : Tok), w2 = .str (mL mi) t2 ∧ w3 = .int (at' : Int) t3 ∧ w4 = .str (fS Fs) t4 ∧ at' < n ∧ Fs.length < n ∧ ∀ f, i + f = 3 * n → Plain.loopF t n f (mi, at') Fs = res
theorem tapeS_len (sg : List (Fin 3)) : (tapeS sg).length = sg.length := by simp [tapeS, Str.length]
theorem tapeS_at (sg : List (Fin 3)) (a : Nat) (h : a < sg.length) : (tapeS sg).cps[a]? = some (sC (sg.getD a 2)) := by
  simp [tapeS, h]
noncomputable def outS (o : Option (Fin 3)) : Str := match o with | none => Str.ofString "-" | some m => mL m
noncomputable def padS (r : Option (Fin 3) × List (Fin 3)) (n : Nat) : Str := match r.1 with | some _ => fS r.2 | none => fS r.2 ++ Txt.mul (Str.ofString "-") ((n : Int) - (r.2.length : Int))
noncomputable def nmS (mi c : Fin 3) : Str := ⟨#[lC mi, sC c]⟩
noncomputable def uL (m : Fin 3) : Nat := match m with | 0 => 80 | 1 => 81 | 2 => 82
noncomputable def uC (c : Fin 3) : Nat := match c with | 0 => 70 | 1 => 73 | 2 => 46
noncomputable def upS (mi c : Fin 3) : Str := ⟨#[uL mi, uC c]⟩
theorem addML {w : World} {A : Around} {E : Value → Shared → Prop} {s : Shared} {Q : Value → Shared → Prop} {mi c : Fin 3} {sg : List (Fin 3)} {ai : Nat} {t u : Tok} (ha : ai < sg.length) (hc : c = sg.getD ai 2) (h : ∀ t' k, Q (.str (nmS mi c) t') { s with toks := k }) :
    wpAny (model PW w) A (binaryOp .Add (.str (mL mi) t) (.str (Txt.item (tapeS sg) (ai : Int)) u)) Q E s := by
  have e : Txt.item (tapeS sg) (ai : Int) = ⟨#[sC c]⟩ := item_meets (by omega) (by rw [hc]; simpa using tapeS_at sg ai ha)
  rw [e, mL_eq]
  exact add_str (fun t' k => h t' k) (by show 1 + 1 ≤ sizeLine; decide)
theorem addFL {w : World} {A : Around} {E : Value → Shared → Prop} {s : Shared} {Q : Value → Shared → Prop} {Fs : List (Fin 3)} {g : Int} {t u : Tok} (hF : Fs.length < 100) (h : ∀ t' k, Q (.str (fS (Fs ++ [tg g])) t') { s with toks := k }) :
    wpAny (model PW w) A (binaryOp .Add (.str (fS Fs) t) (.str (LW g) u)) Q E s := by
  have e : fS Fs ++ LW g = fS (Fs ++ [tg g]) := by rw [LW_mL, fS_snoc]
  refine add_str (fun t' k => ?_) ?_
  · rw [e]; exact h t' k
  · have l1 := fS_len Fs
    have l2 : (LW g).length = 1 := by rw [LW_mL, mL_eq]; rfl
    rw [l1, l2]; show _ ≤ sizeLine
    have : (200 : Nat) ≤ sizeLine := by decide
    omega
theorem upNM {w : World} {A : Around} {E : Value → Shared → Prop} {s : Shared} {Q : Value → Shared → Prop} {mi c : Fin 3} {t : Tok} (h : Q (.str (upS mi c) s.toks) { s with toks := s.toks + 1 }) : wpAny (model PW w) A (call (.builtin "str.upper") [.str (nmS mi c) t]) Q E s := by
  have hl : (nmS mi c).length = 2 := rfl
  refine SCL.upper (by omega) ?_
  intro _
  have e : Txt.upper (nmS mi c) = upS mi c := by rcases fin3 mi with rfl | rfl | rfl <;> rcases fin3 c with rfl | rfl | rfl <;> decide +kernel
  rw [e]; exact h
theorem get_all {w : World} {ln : Nat} {pg dx l : Addr} {hs : Int} {tt : Tok} {a0 a1 a2 a3 a4 a5 a6 a7 a8 : Addr} {t0 t1 t2 t3 t4 t5 t6 t7 t8 u0 u1 u2 u3 u4 u5 u6 u7 u8 : Tok} {g0 g1 g2 g3 g4 g5 g6 g7 g8 d0 d1 d2 d3 d4 d5 d6 d7 d8 : Int} {nu : Addr} {nus : Array Value} {nn : Nat} {q1 q2 : Array Value} {mi c : Fin 3} {t : Tok} {mean : ExcName → Option Value} {mg mb : Str → Option Value} {dp un : Nat} {gd : Option (List Code)} {cn : Str} {cs : Scope} {a : Addr} {ccd : Value} {cl : List (Str × Addr)} {outer : List Env} {A₀ : Around} {base h₀ : Heap} {L : Addr} {m : Str → Option Value} {s : Shared} {Q E : Value → Shared → Prop} {rest : List (Addr × Obj)}
    (B : Below A₀ base outer h₀) (F : Fr h₀ L s.heap m) (X : (KF w.params).In h₀) (N : News h₀ L s.heap [(pg, (⟨.ref 269, some dx, .plain, #[]⟩ : Obj)), (dx, dictOf [⟨hs, .str (Str.ofString "_headers") tt, .ref l⟩] 1), (l, W.listOf #[.ref a0, .ref a1, .ref a2, .ref a3, .ref a4, .ref a5, .ref a6, .ref a7, .ref a8] ln), (a0, ({ cls := .type "tuple", data := .seq [.str (Str.ofString "pf") t0, .str (PV g0 d0) u0].toArray } : Obj)), (a1, ({ cls := .type "tuple", data := .seq [.str (Str.ofString "pi") t1, .str (PV g1 d1) u1].toArray } : Obj)), (a2, ({ cls := .type "tuple", data := .seq [.str (Str.ofString "qf") t2, .str (PV g2 d2) u2].toArray } : Obj)), (a3, ({ cls := .type "tuple", data := .seq [.str (Str.ofString "qi") t3, .str (PV g3 d3) u3].toArray } : Obj)), (a4, ({ cls := .type "tuple", data := .seq [.str (Str.ofString "rf") t4, .str (PV g4 d4) u4].toArray } : Obj)), (a5, ({ cls := .type "tuple", data := .seq [.str (Str.ofString "ri") t5, .str (PV g5 d5) u5].toArray } : Obj)), (a6, ({ cls := .type "tuple", data := .seq [.str (Str.ofString "p.") t6, .str (PV g6 d6) u6].toArray } : Obj)), (a7, ({ cls := .type "tuple", data := .seq [.str (Str.ofString "q.") t7, .str (PV g7 d7) u7].toArray } : Obj)), (a8, ({ cls := .type "tuple", data := .seq [.str (Str.ofString "r.") t8, .str (PV g8 d8) u8].toArray } : Obj)), (nu, W.listOf nus nn), (104, tabObj q1), (111, tabObj q2)]) (NR : News h₀ L s.heap rest) (off : ∀ p ∈ rest, p.1 ∉ [(pg, (⟨.ref 269, some dx, .plain, #[]⟩ : Obj)), (dx, dictOf [⟨hs, .str (Str.ofString "_headers") tt, .ref l⟩] 1), (l, W.listOf #[.ref a0, .ref a1, .ref a2, .ref a3, .ref a4, .ref a5, .ref a6, .ref a7, .ref a8] ln), (a0, ({ cls := .type "tuple", data := .seq [.str (Str.ofString "pf") t0, .str (PV g0 d0) u0].toArray } : Obj)), (a1, ({ cls := .type "tuple", data := .seq [.str (Str.ofString "pi") t1, .str (PV g1 d1) u1].toArray } : Obj)), (a2, ({ cls := .type "tuple", data := .seq [.str (Str.ofString "qf") t2, .str (PV g2 d2) u2].toArray } : Obj)), (a3, ({ cls := .type "tuple", data := .seq [.str (Str.ofString "qi") t3, .str (PV g3 d3) u3].toArray } : Obj)), (a4, ({ cls := .type "tuple", data := .seq [.str (Str.ofString "rf") t4, .str (PV g4 d4) u4].toArray } : Obj)), (a5, ({ cls := .type "tuple", data := .seq [.str (Str.ofString "ri") t5, .str (PV g5 d5) u5].toArray } : Obj)), (a6, ({ cls := .type "tuple", data := .seq [.str (Str.ofString "p.") t6, .str (PV g6 d6) u6].toArray } : Obj)), (a7, ({ cls := .type "tuple", data := .seq [.str (Str.ofString "q.") t7, .str (PV g7 d7) u7].toArray } : Obj)), (a8, ({ cls := .type "tuple", data := .seq [.str (Str.ofString "r.") t8, .str (PV g8 d8) u8].toArray } : Obj)), (nu, W.listOf nus nn), (104, tabObj q1), (111, tabObj q2)].map (·.1)) (T : Top topProg LN mean mg mb h₀) (hk : cs.kind = .function) (hd : dp + 3 < recursionLimit) (hu : un + 24 < cLine)
    (hret : ∀ h' tk', Fr h₀ L h' m → News h₀ L h' [(pg, (⟨.ref 269, some dx, .plain, #[]⟩ : Obj)), (dx, dictOf [⟨hs, .str (Str.ofString "_headers") tt, .ref l⟩] 1), (l, W.listOf #[.ref a0, .ref a1, .ref a2, .ref a3, .ref a4, .ref a5, .ref a6, .ref a7, .ref a8] ln), (a0, ({ cls := .type "tuple", data := .seq [.str (Str.ofString "pf") t0, .str (PV g0 d0) u0].toArray } : Obj)), (a1, ({ cls := .type "tuple", data := .seq [.str (Str.ofString "pi") t1, .str (PV g1 d1) u1].toArray } : Obj)), (a2, ({ cls := .type "tuple", data := .seq [.str (Str.ofString "qf") t2, .str (PV g2 d2) u2].toArray } : Obj)), (a3, ({ cls := .type "tuple", data := .seq [.str (Str.ofString "qi") t3, .str (PV g3 d3) u3].toArray } : Obj)), (a4, ({ cls := .type "tuple", data := .seq [.str (Str.ofString "rf") t4, .str (PV g4 d4) u4].toArray } : Obj)), (a5, ({ cls := .type "tuple", data := .seq [.str (Str.ofString "ri") t5, .str (PV g5 d5) u5].toArray } : Obj)), (a6, ({ cls := .type "tuple", data := .seq [.str (Str.ofString "p.") t6, .str (PV g6 d6) u6].toArray } : Obj)), (a7, ({ cls := .type "tuple", data := .seq [.str (Str.ofString "q.") t7, .str (PV g7 d7) u7].toArray } : Obj)), (a8, ({ cls := .type "tuple", data := .seq [.str (Str.ofString "r.") t8, .str (PV g8 d8) u8].toArray } : Obj)), (nu, W.listOf nus nn), (104, tabObj q1), (111, tabObj q2)] → News h₀ L h' rest → Q (.str (PV (pick g0 g1 g2 g3 g4 g5 g6 g7 g8 mi c) (pick d0 d1 d2 d3 d4 d5 d6 d7 d8 mi c)) (pick u0 u1 u2 u3 u4 u5 u6 u7 u8 mi c)) { s with heap := h', toks := tk' }) :
    wpAny (model PW w) (ktrTop dp un gd cn cs L a ccd cl outer) (call (.ref 216) [.ref pg, .str (upS mi c) t]) Q E s := by
  have e00 : upS 0 0 = Str.ofString "PF" := by decide +kernel
  have e01 : upS 0 1 = Str.ofString "PI" := by decide +kernel
  have e02 : upS 0 2 = Str.ofString "P." := by decide +kernel
  have e10 : upS 1 0 = Str.ofString "QF" := by decide +kernel
  have e11 : upS 1 1 = Str.ofString "QI" := by decide +kernel
  have e12 : upS 1 2 = Str.ofString "Q." := by decide +kernel
  have e20 : upS 2 0 = Str.ofString "RF" := by decide +kernel
  have e21 : upS 2 1 = Str.ofString "RI" := by decide +kernel
  have e22 : upS 2 2 = Str.ofString "R." := by decide +kernel
  have hok : ∀ p ∈ ([(a0, "pf", t0, PV g0 d0, u0), (a1, "pi", t1, PV g1 d1, u1), (a2, "qf", t2, PV g2 d2, u2), (a3, "qi", t3, PV g3 d3, u3), (a4, "rf", t4, PV g4 d4, u4), (a5, "ri", t5, PV g5 d5, u5), (a6, "p.", t6, PV g6 d6, u6), (a7, "q.", t7, PV g7 d7, u7), (a8, "r.", t8, PV g8 d8, u8)] : List GItem), p.2.1 ∈ nineG ∧ gTup p ∈ [(a0, ({ cls := .type "tuple", data := .seq [.str (Str.ofString "pf") t0, .str (PV g0 d0) u0].toArray } : Obj)), (a1, ({ cls := .type "tuple", data := .seq [.str (Str.ofString "pi") t1, .str (PV g1 d1) u1].toArray } : Obj)), (a2, ({ cls := .type "tuple", data := .seq [.str (Str.ofString "qf") t2, .str (PV g2 d2) u2].toArray } : Obj)), (a3, ({ cls := .type "tuple", data := .seq [.str (Str.ofString "qi") t3, .str (PV g3 d3) u3].toArray } : Obj)), (a4, ({ cls := .type "tuple", data := .seq [.str (Str.ofString "rf") t4, .str (PV g4 d4) u4].toArray } : Obj)), (a5, ({ cls := .type "tuple", data := .seq [.str (Str.ofString "ri") t5, .str (PV g5 d5) u5].toArray } : Obj)), (a6, ({ cls := .type "tuple", data := .seq [.str (Str.ofString "p.") t6, .str (PV g6 d6) u6].toArray } : Obj)), (a7, ({ cls := .type "tuple", data := .seq [.str (Str.ofString "q.") t7, .str (PV g7 d7) u7].toArray } : Obj)), (a8, ({ cls := .type "tuple", data := .seq [.str (Str.ofString "r.") t8, .str (PV g8 d8) u8].toArray } : Obj)), (nu, W.listOf nus nn), (104, tabObj q1), (111, tabObj q2)] := List.forall_mem_cons.mpr ⟨⟨by k_mem, by k_mem⟩, List.forall_mem_cons.mpr ⟨⟨by k_mem, by k_mem⟩, List.forall_mem_cons.mpr ⟨⟨by k_mem, by k_mem⟩, List.forall_mem_cons.mpr ⟨⟨by k_mem, by k_mem⟩, List.forall_mem_cons.mpr ⟨⟨by k_mem, by k_mem⟩, List.forall_mem_cons.mpr ⟨⟨by k_mem, by k_mem⟩, List.forall_mem_cons.mpr ⟨⟨by k_mem, by k_mem⟩, List.forall_mem_cons.mpr ⟨⟨by k_mem, by k_mem⟩, List.forall_mem_cons.mpr ⟨⟨by k_mem, by k_mem⟩,  fun _ h => nomatch h⟩⟩⟩⟩⟩⟩⟩⟩⟩
  rcases fin3 mi with rfl | rfl | rfl <;> rcases fin3 c with rfl | rfl | rfl
  · rw [e00]; exact get_any (x := "pf") (a := a0) (tv := t0) (u := u0) (v := PV g0 d0) [(a0, "pf", t0, PV g0 d0, u0), (a1, "pi", t1, PV g1 d1, u1), (a2, "qf", t2, PV g2 d2, u2), (a3, "qi", t3, PV g3 d3, u3), (a4, "rf", t4, PV g4 d4, u4), (a5, "ri", t5, PV g5 d5, u5), (a6, "p.", t6, PV g6 d6, u6), (a7, "q.", t7, PV g7 d7, u7), (a8, "r.", t8, PV g8 d8, u8)] B F X N NR off T hk hd hu (by decide) (by decide +kernel) rfl hok (show List.Nodup nineG by decide) (by k_mem) hret
  · rw [e01]; exact get_any (x := "pi") (a := a1) (tv := t1) (u := u1) (v := PV g1 d1) [(a0, "pf", t0, PV g0 d0, u0), (a1, "pi", t1, PV g1 d1, u1), (a2, "qf", t2, PV g2 d2, u2), (a3, "qi", t3, PV g3 d3, u3), (a4, "rf", t4, PV g4 d4, u4), (a5, "ri", t5, PV g5 d5, u5), (a6, "p.", t6, PV g6 d6, u6), (a7, "q.", t7, PV g7 d7, u7), (a8, "r.", t8, PV g8 d8, u8)] B F X N NR off T hk hd hu (by decide) (by decide +kernel) rfl hok (show List.Nodup nineG by decide) (by k_mem) hret
  · rw [e02]; exact get_any (x := "p.") (a := a6) (tv := t6) (u := u6) (v := PV g6 d6) [(a0, "pf", t0, PV g0 d0, u0), (a1, "pi", t1, PV g1 d1, u1), (a2, "qf", t2, PV g2 d2, u2), (a3, "qi", t3, PV g3 d3, u3), (a4, "rf", t4, PV g4 d4, u4), (a5, "ri", t5, PV g5 d5, u5), (a6, "p.", t6, PV g6 d6, u6), (a7, "q.", t7, PV g7 d7, u7), (a8, "r.", t8, PV g8 d8, u8)] B F X N NR off T hk hd hu (by decide) (by decide +kernel) rfl hok (show List.Nodup nineG by decide) (by k_mem) hret
  · rw [e10]; exact get_any (x := "qf") (a := a2) (tv := t2) (u := u2) (v := PV g2 d2) [(a0, "pf", t0, PV g0 d0, u0), (a1, "pi", t1, PV g1 d1, u1), (a2, "qf", t2, PV g2 d2, u2), (a3, "qi", t3, PV g3 d3, u3), (a4, "rf", t4, PV g4 d4, u4), (a5, "ri", t5, PV g5 d5, u5), (a6, "p.", t6, PV g6 d6, u6), (a7, "q.", t7, PV g7 d7, u7), (a8, "r.", t8, PV g8 d8, u8)] B F X N NR off T hk hd hu (by decide) (by decide +kernel) rfl hok (show List.Nodup nineG by decide) (by k_mem) hret
  · rw [e11]; exact get_any (x := "qi") (a := a3) (tv := t3) (u := u3) (v := PV g3 d3) [(a0, "pf", t0, PV g0 d0, u0), (a1, "pi", t1, PV g1 d1, u1), (a2, "qf", t2, PV g2 d2, u2), (a3, "qi", t3, PV g3 d3, u3), (a4, "rf", t4, PV g4 d4, u4), (a5, "ri", t5, PV g5 d5, u5), (a6, "p.", t6, PV g6 d6, u6), (a7, "q.", t7, PV g7 d7, u7), (a8, "r.", t8, PV g8 d8, u8)] B F X N NR off T hk hd hu (by decide) (by decide +kernel) rfl hok (show List.Nodup nineG by decide) (by k_mem) hret
  · rw [e12]; exact get_any (x := "q.") (a := a7) (tv := t7) (u := u7) (v := PV g7 d7) [(a0, "pf", t0, PV g0 d0, u0), (a1, "pi", t1, PV g1 d1, u1), (a2, "qf", t2, PV g2 d2, u2), (a3, "qi", t3, PV g3 d3, u3), (a4, "rf", t4, PV g4 d4, u4), (a5, "ri", t5, PV g5 d5, u5), (a6, "p.", t6, PV g6 d6, u6), (a7, "q.", t7, PV g7 d7, u7), (a8, "r.", t8, PV g8 d8, u8)] B F X N NR off T hk hd hu (by decide) (by decide +kernel) rfl hok (show List.Nodup nineG by decide) (by k_mem) hret
  · rw [e20]; exact get_any (x := "rf") (a := a4) (tv := t4) (u := u4) (v := PV g4 d4) [(a0, "pf", t0, PV g0 d0, u0), (a1, "pi", t1, PV g1 d1, u1), (a2, "qf", t2, PV g2 d2, u2), (a3, "qi", t3, PV g3 d3, u3), (a4, "rf", t4, PV g4 d4, u4), (a5, "ri", t5, PV g5 d5, u5), (a6, "p.", t6, PV g6 d6, u6), (a7, "q.", t7, PV g7 d7, u7), (a8, "r.", t8, PV g8 d8, u8)] B F X N NR off T hk hd hu (by decide) (by decide +kernel) rfl hok (show List.Nodup nineG by decide) (by k_mem) hret
  · rw [e21]; exact get_any (x := "ri") (a := a5) (tv := t5) (u := u5) (v := PV g5 d5) [(a0, "pf", t0, PV g0 d0, u0), (a1, "pi", t1, PV g1 d1, u1), (a2, "qf", t2, PV g2 d2, u2), (a3, "qi", t3, PV g3 d3, u3), (a4, "rf", t4, PV g4 d4, u4), (a5, "ri", t5, PV g5 d5, u5), (a6, "p.", t6, PV g6 d6, u6), (a7, "q.", t7, PV g7 d7, u7), (a8, "r.", t8, PV g8 d8, u8)] B F X N NR off T hk hd hu (by decide) (by decide +kernel) rfl hok (show List.Nodup nineG by decide) (by k_mem) hret
  · rw [e22]; exact get_any (x := "r.") (a := a8) (tv := t8) (u := u8) (v := PV g8 d8) [(a0, "pf", t0, PV g0 d0, u0), (a1, "pi", t1, PV g1 d1, u1), (a2, "qf", t2, PV g2 d2, u2), (a3, "qi", t3, PV g3 d3, u3), (a4, "rf", t4, PV g4 d4, u4), (a5, "ri", t5, PV g5 d5, u5), (a6, "p.", t6, PV g6 d6, u6), (a7, "q.", t7, PV g7 d7, u7), (a8, "r.", t8, PV g8 d8, u8)] B F X N NR off T hk hd hu (by decide) (by decide +kernel) rfl hok (show List.Nodup nineG by decide) (by k_mem) hret
section
variable {gI dI : Fin 3 → Fin 3 → Int} {sg : List (Fin 3)} {i ai : Nat} {mi c : Fin 3} {Fs : List (Fin 3)} {res : Option (Fin 3) × List (Fin 3)}
theorem turn_eq (hc : c = sg.getD ai 2) (hrel : ∀ f, i + f = 3 * sg.length → Plain.loopF (tabT gI dI sg) sg.length f (mi, ai) Fs = res) (hi : i < 3 * sg.length) (HZ : ∀ mi, dI mi (sg.getD 0 2) ≠ 0) :
    ∃ a' : Nat, (ai : Int) - 1 + 2 * (if dI mi c = 0 then 0 else 1) = (a' : Int) ∧ a' ≤ ai + 1 ∧
      (if a' = sg.length then (some (tg (gI mi c)), if a' > Fs.length then Fs ++ [tg (gI mi c)] else Fs) = res
       else ∀ f, (i + 1) + f = 3 * sg.length → Plain.loopF (tabT gI dI sg) sg.length f (tg (gI mi c), a') (if a' > Fs.length then Fs ++ [tg (gI mi c)] else Fs) = res) := by
  subst hc
  refine ⟨(Plain.step (tabT gI dI sg) (mi, ai)).2, at_step (fun e => by subst e; exact HZ mi), Plain.step_le _ _, ?_⟩
  obtain ⟨f, hf⟩ : ∃ f, i + (f + 1) = 3 * sg.length := ⟨3 * sg.length - i - 1, by omega⟩
  have e1 : (Plain.step (tabT gI dI sg) (mi, ai)).1 = tg (gI mi (sg.getD ai 2)) := rfl
  split
  · rename_i q
    have h := hrel (f + 1) hf
    simp only [Plain.loopF] at h
    rw [if_pos q] at h
    rw [← e1]; exact h
  · rename_i q
    intro f' hf'
    have h := hrel (f' + 1) (by omega)
    simp only [Plain.loopF] at h
    rw [if_neg q] at h
    rw [← e1]; exact h
end
end Mine
end

end

section
open PySem PySem.W PyProof.Rows PySem.Spec PySem.Calls
set_option Elab.async false
set_option maxRecDepth 100000
namespace Mine
theorem kwn_WK : True := by
  k_with_none
  trivial
theorem fillWK : RW = RW ∧ KF = KF := by
  k_fill
  exact ⟨rfl, rfl⟩
set_option maxHeartbeats 0
set_option rowWalk.seconds 0
local macro_rules | `(tactic| k_lt $h:ident) => `(tactic| (replace $h := allLt_of $h; simp only [AllLt, and_true] at $h:ident))
theorem walk_okF {w : World} {ln : Nat} {pg dx l : Addr} {hs : Int} {tt : Tok} {a0 a1 a2 a3 a4 a5 a6 a7 a8 : Addr} {t0 t1 t2 t3 t4 t5 t6 t7 t8 u0 u1 u2 u3 u4 u5 u6 u7 u8 : Tok} {g0 g1 g2 g3 g4 g5 g6 g7 g8 d0 d1 d2 d3 d4 d5 d6 d7 d8 : Int} {nu : Addr} {nus : Array Value} {nn : Nat} {q1 q2 : Array Value} {mean : ExcName → Option Value} {mg mb : Str → Option Value} {dp un : Nat} {gd : Option (List Code)} {cn : Str} {cs : Scope} {a : Addr} {ccd : Value} {cl : List (Str × Addr)} {outer : List Env} {A₀ : Around} {base h₀ : Heap} {L : Addr} {m : Str → Option Value} {s : Shared} {Q E : Value → Shared → Prop} {rest : List (Addr × Obj)} {sg : List (Fin 3)} {tT tm ta : Tok} {m0 : Fin 3} {i0 : Nat} (hn : sg.length ≤ 12) (hi0 : i0 < sg.length) (HZ : ∀ mi, pick d0 d1 d2 d3 d4 d5 d6 d7 d8 mi (sg.getD 0 2) ≠ 0)
    (B : Below A₀ base outer h₀) (F : Fr h₀ L s.heap m) (X : (KF w.params).In h₀) (N : News h₀ L s.heap [(pg, (⟨.ref 269, some dx, .plain, #[]⟩ : Obj)), (dx, dictOf [⟨hs, .str (Str.ofString "_headers") tt, .ref l⟩] 1), (l, W.listOf #[.ref a0, .ref a1, .ref a2, .ref a3, .ref a4, .ref a5, .ref a6, .ref a7, .ref a8] ln), (a0, ({ cls := .type "tuple", data := .seq [.str (Str.ofString "pf") t0, .str (PV g0 d0) u0].toArray } : Obj)), (a1, ({ cls := .type "tuple", data := .seq [.str (Str.ofString "pi") t1, .str (PV g1 d1) u1].toArray } : Obj)), (a2, ({ cls := .type "tuple", data := .seq [.str (Str.ofString "qf") t2, .str (PV g2 d2) u2].toArray } : Obj)), (a3, ({ cls := .type "tuple", data := .seq [.str (Str.ofString "qi") t3, .str (PV g3 d3) u3].toArray } : Obj)), (a4, ({ cls := .type "tuple", data := .seq [.str (Str.ofString "rf") t4, .str (PV g4 d4) u4].toArray } : Obj)), (a5, ({ cls := .type "tuple", data := .seq [.str (Str.ofString "ri") t5, .str (PV g5 d5) u5].toArray } : Obj)), (a6, ({ cls := .type "tuple", data := .seq [.str (Str.ofString "p.") t6, .str (PV g6 d6) u6].toArray } : Obj)), (a7, ({ cls := .type "tuple", data := .seq [.str (Str.ofString "q.") t7, .str (PV g7 d7) u7].toArray } : Obj)), (a8, ({ cls := .type "tuple", data := .seq [.str (Str.ofString "r.") t8, .str (PV g8 d8) u8].toArray } : Obj)), (nu, W.listOf nus nn), (104, tabObj q1), (111, tabObj q2)]) (NR : News h₀ L s.heap rest) (off : ∀ p ∈ rest, p.1 ∉ [(pg, (⟨.ref 269, some dx, .plain, #[]⟩ : Obj)), (dx, dictOf [⟨hs, .str (Str.ofString "_headers") tt, .ref l⟩] 1), (l, W.listOf #[.ref a0, .ref a1, .ref a2, .ref a3, .ref a4, .ref a5, .ref a6, .ref a7, .ref a8] ln), (a0, ({ cls := .type "tuple", data := .seq [.str (Str.ofString "pf") t0, .str (PV g0 d0) u0].toArray } : Obj)), (a1, ({ cls := .type "tuple", data := .seq [.str (Str.ofString "pi") t1, .str (PV g1 d1) u1].toArray } : Obj)), (a2, ({ cls := .type "tuple", data := .seq [.str (Str.ofString "qf") t2, .str (PV g2 d2) u2].toArray } : Obj)), (a3, ({ cls := .type "tuple", data := .seq [.str (Str.ofString "qi") t3, .str (PV g3 d3) u3].toArray } : Obj)), (a4, ({ cls := .type "tuple", data := .seq [.str (Str.ofString "rf") t4, .str (PV g4 d4) u4].toArray } : Obj)), (a5, ({ cls := .type "tuple", data := .seq [.str (Str.ofString "ri") t5, .str (PV g5 d5) u5].toArray } : Obj)), (a6, ({ cls := .type "tuple", data := .seq [.str (Str.ofString "p.") t6, .str (PV g6 d6) u6].toArray } : Obj)), (a7, ({ cls := .type "tuple", data := .seq [.str (Str.ofString "q.") t7, .str (PV g7 d7) u7].toArray } : Obj)), (a8, ({ cls := .type "tuple", data := .seq [.str (Str.ofString "r.") t8, .str (PV g8 d8) u8].toArray } : Obj)), (nu, W.listOf nus nn), (104, tabObj q1), (111, tabObj q2)].map (·.1)) (T : Top topProg LN mean mg mb h₀) (hk : cs.kind = .function) (hd : dp + 8 < recursionLimit) (hu : un + 64 < cLine)
    (hret : ∀ tp ua ub h' tk', Fr h₀ L h' m → News h₀ L h' ((tp, tup2 (.str (outS (Plain.loopF (tabT (pick g0 g1 g2 g3 g4 g5 g6 g7 g8) (pick d0 d1 d2 d3 d4 d5 d6 d7 d8) sg) sg.length (3 * sg.length) (m0, i0) []).1) ua) (.str (padS (Plain.loopF (tabT (pick g0 g1 g2 g3 g4 g5 g6 g7 g8) (pick d0 d1 d2 d3 d4 d5 d6 d7 d8) sg) sg.length (3 * sg.length) (m0, i0) []) sg.length) ub)) :: [(pg, (⟨.ref 269, some dx, .plain, #[]⟩ : Obj)), (dx, dictOf [⟨hs, .str (Str.ofString "_headers") tt, .ref l⟩] 1), (l, W.listOf #[.ref a0, .ref a1, .ref a2, .ref a3, .ref a4, .ref a5, .ref a6, .ref a7, .ref a8] ln), (a0, ({ cls := .type "tuple", data := .seq [.str (Str.ofString "pf") t0, .str (PV g0 d0) u0].toArray } : Obj)), (a1, ({ cls := .type "tuple", data := .seq [.str (Str.ofString "pi") t1, .str (PV g1 d1) u1].toArray } : Obj)), (a2, ({ cls := .type "tuple", data := .seq [.str (Str.ofString "qf") t2, .str (PV g2 d2) u2].toArray } : Obj)), (a3, ({ cls := .type "tuple", data := .seq [.str (Str.ofString "qi") t3, .str (PV g3 d3) u3].toArray } : Obj)), (a4, ({ cls := .type "tuple", data := .seq [.str (Str.ofString "rf") t4, .str (PV g4 d4) u4].toArray } : Obj)), (a5, ({ cls := .type "tuple", data := .seq [.str (Str.ofString "ri") t5, .str (PV g5 d5) u5].toArray } : Obj)), (a6, ({ cls := .type "tuple", data := .seq [.str (Str.ofString "p.") t6, .str (PV g6 d6) u6].toArray } : Obj)), (a7, ({ cls := .type "tuple", data := .seq [.str (Str.ofString "q.") t7, .str (PV g7 d7) u7].toArray } : Obj)), (a8, ({ cls := .type "tuple", data := .seq [.str (Str.ofString "r.") t8, .str (PV g8 d8) u8].toArray } : Obj)), (nu, W.listOf nus nn), (104, tabObj q1), (111, tabObj q2)]) → News h₀ L h' rest → (∀ p ∈ rest, p.1 ≠ tp) → Q (.ref tp) { s with heap := h', toks := tk' }) :
    wpAny (model PW w) (ktrTop dp un gd cn cs L a ccd cl outer) (call (.ref 306) [.ref pg, .str (tapeS sg) tT, .str (mL m0) tm, .int (i0 : Int) ta]) Q E s := by
  have tl := tapeS_len sg
  k_with_none
  k_with "binaryOp Add str str" => ((with_reducible show wpAny _ _ (binaryOp _ (Value.str (mL _) _) (Value.str (Txt.item _ _) _)) _ _ _); refine addML ha hc ?_; intro t8 k8)
  k_with "binaryOp Add str str" => ((with_reducible show wpAny _ _ (binaryOp _ (Value.str (fS _) _) (Value.str (LW _) _)) _ _ _); refine addFL (by omega) ?_; intro t8 k8)
  k_with "call builtin:str.upper" => (refine upNM ?_)
  k_with "call builtin:str.lower" => (refine lowPV ?_)
  k_with "call ref" => (k_dflt (refine' use_C (costPV _ _) ?k1 ?k2 ?k3 ?k4 ?k5 ?kK ?kd ?ku ?_;  (case k1 => k_asm); (case k2 => k_asm); (case k3 => k_asm); (case k4 => k_asm); (case k5 => k_asm); (case kK => first | exact rfl | assumption); (case kd => ktr_room); (case ku => ktr_units)); intro t9 h9 tk9 F9 N9; (try dsimp only); (try k_fold))
  k_with "call ref" => (k_dflt (refine' get_all (rest := own9) (mi := mi) (c := c) (nu := nu) (nus := nus) (nn := nn) (q1 := q1) (q2 := q2) ?k1 ?k2 ?k3 ?k4 ?kr ?off ?k5 ?kK ?kd ?ku ?_; (case k1 => k_asm); (case k2 => k_asm); (case k3 => k_asm); (case k4 => exact cb_drop (by k_asm) (SubL.mem (by k_subL))); (case kr => exact cb_drop (by k_asm) (fun p hp => by repeat (first | exact hp | apply List.Mem.tail))); (case off => exact fun p hp q => hoff9 p hp p.1 q rfl); (case k5 => k_asm); (case kK => first | exact rfl | assumption); (case kd => ktr_room); (case ku => ktr_units)); intro h9 tk9 F9 NA9 NB9; (have N9 := news_app NA9 NB9); (simp only [List.cons_append, List.nil_append] at N9); (clear NA9 NB9); (try k_sweep); (try dsimp only); (try k_fold))
  k_with "eval Name" => (k_dflt (first | refine ld (by k_asm) f4 ?_ rfl rfl | refine ld (by k_asm) f3 ?_ rfl rfl | refine ld (by k_asm) ((hm9 (Str.ofString "tape") (by decide) (by decide) (by decide) (by decide) (by decide)).trans rfl) ?_ rfl rfl))
  k_with "call builtin:len" => (refine len_str (by (first | rw [fS_len] | rw [tapeS_len]); omega) ?_)
  k_with "pyIter ref" => ((rename Fr _ _ _ _ => lF'); (rename News _ _ _ _ => lN'); (rename IsRange _ _ _ _ _ _ _ _ => rgX); (k_dflt (refine' iter_range3 (n := 3 * sg.length) (Str.ofString "mind") (Str.ofString "at") (Str.ofString "firsts") (Str.ofString "goal") (stp (tabT (pick g0 g1 g2 g3 g4 g5 g6 g7 g8) (pick d0 d1 d2 d3 d4 d5 d6 d7 d8) sg) sg.length (Plain.loopF (tabT (pick g0 g1 g2 g3 g4 g5 g6 g7 g8) (pick d0 d1 d2 d3 d4 d5 d6 d7 d8) sg) sg.length (3 * sg.length) (m0, i0) [])) ?hh rgX ?hb ?hz lF' lN' ?e2 ?e3 ?e4 ?hw (fun i9 t9 w2 w3 w4 mg9 h9 tk9 own9 hi9 hoff9 hJ9 F9 N9 => ?_) (fun w2 w3 w4 m9 h9 tk9 hJ9 f2 f3 f4 hm9 F9 N9 => ?_); (case hh => exact rfl); (case hb => (rw [tl]; push_cast; omega)); (case hz => omega); (case e2 => exact rfl); (case e3 => exact rfl); (case e4 => exact rfl); (case hw => exact ⟨m0, i0, [], _, _, _, rfl, rfl, rfl, hi0, by (show 0 < sg.length; omega), fun f e => by (rw [Nat.zero_add] at e; rw [e])⟩))); (all_goals (obtain ⟨mi, ai, Fs, t2, t3, t4, rfl, rfl, rfl, ha, hF, hrel⟩ := hJ9)); (all_goals (try clear lF' lN')); (all_goals (try simp only [List.nil_append, List.cons_append, List.append_nil] at N9)); (all_goals (have fl := fS_len Fs)); (try (obtain ⟨c, hc⟩ : ∃ c, c = sg.getD ai 2 := ⟨_, rfl⟩)); (all_goals (try k_fold)))
  refine wpAny_call ?_
  k_dflt (refine' code_defPF (rest := rest) ?k1 ?k2 ?k3 ?k4 ?kr1 ?kr2 ?k5 ?kA ?kF ?kK ?k6 ?k7 ?k8 ?k9 ?kB ?_ ?c2 ?c3 ?c4 ?c5; (case kA => exact rfl); (case kF => exact rfl); (case kK => first | exact rfl | assumption); (case k1 => k_asm); (case k2 => k_asm); (case k3 => k_asm); (case k4 => exact N); (case kr1 => exact NR); (case kr2 => exact off); (case k5 => k_asm); (case k6 => k_is); (case k7 => k_is); (case k8 => ktr_room); (case k9 => first | exact BindsTo.of_eq rfl | exact binds_K (by k_in) rfl (by k_is) rfl rfl rfl); (case c5 => decide); (case kB => exact locs rfl); (case c2 => exact rfl); (case c3 => exact rfl); (case c4 => exact rfl); k_whole; intro g' L' h' HB FG' F' N' B' X' T' l1 LR; (try k_lt l1); (try dsimp only); (try k_lift B'); (try k_fold))
  k_steps
  all_goals first
    | (obtain ⟨a', hA, hle, hT⟩ := turn_eq hc hrel hi9 HZ
       rename News _ _ _ _ => kN9
       simp only [LW_mL] at kN9
       (have hA2 : a' = sg.length := by omega)
       rw [if_pos hA2] at hT
       first
         | ((have hb : a' > Fs.length := by omega); rw [if_pos hb] at hT; rw [← hT] at hret; ((unfold RestR; dsimp only; intro NR'); exact hret _ _ _ _ _ (by k_asm) (cb_drop kN9 (SubL.mem (by k_subL))) NR' (rest_ne HB NR off (by assumption) (by k_mem))))
         | ((have hb : ¬ a' > Fs.length := by omega); rw [if_neg hb] at hT; rw [← hT] at hret; ((unfold RestR; dsimp only; intro NR'); exact hret _ _ _ _ _ (by k_asm) (cb_drop kN9 (SubL.mem (by k_subL))) NR' (rest_ne HB NR off (by assumption) (by k_mem)))))
    | (obtain ⟨a', hA, hle, hT⟩ := turn_eq hc hrel hi9 HZ
       (have hA2 : a' ≠ sg.length := by omega)
       rw [if_neg hA2] at hT
       first
         | ((have hb : a' > Fs.length := by omega)
            rw [if_pos hb] at hT
            refine InvEndN.intro (by assumption) (by assumption) ⟨rfl, ⟨_, _, _, by with_unfolding_all rfl, by with_unfolding_all rfl, by with_unfolding_all rfl, _, a', _, _, _, _, congrArg (fun z => Value.str z _) (LW_mL _), congrArg (fun z => Value.int z _) hA, rfl, by omega, by (simp only [List.length_append, List.length_singleton]; omega), hT⟩, by (intro z z1 z2 z3 z4 z5; simp [z1, z2, z3, z4, z5])⟩ (by rfl) (SubL.mem (by k_subL)) (fun p hp => by repeat (first | exact hp | apply List.Mem.tail)))
         | ((have hb : ¬ a' > Fs.length := by omega)
            rw [if_neg hb] at hT
            refine InvEndN.intro (by assumption) (by assumption) ⟨rfl, ⟨_, _, _, by with_unfolding_all rfl, by with_unfolding_all rfl, by with_unfolding_all rfl, _, a', _, _, _, _, congrArg (fun z => Value.str z _) (LW_mL _), congrArg (fun z => Value.int z _) hA, rfl, by omega, by omega, hT⟩, by (intro z z1 z2 z3 z4 z5; simp [z1, z2, z3, z4, z5])⟩ (by rfl) (SubL.mem (by k_subL)) (fun p hp => by repeat (first | exact hp | apply List.Mem.tail))))
    | (rename News _ _ _ _ => kN9
       (have hT := hrel 0 (by omega))
       simp only [Plain.loopF] at hT
       simp only [tl, fl] at kN9
       rw [← hT] at hret
       ((unfold RestR; dsimp only; intro NR'); exact hret _ _ _ _ _ (by k_asm) (cb_drop kN9 (SubL.mem (by k_subL))) NR' (rest_ne HB NR off (by assumption) (by k_mem))))
theorem walk_ok {w : World} {ln : Nat} {pg dx l : Addr} {hs : Int} {tt : Tok} {a0 a1 a2 a3 a4 a5 a6 a7 a8 : Addr} {t0 t1 t2 t3 t4 t5 t6 t7 t8 u0 u1 u2 u3 u4 u5 u6 u7 u8 : Tok} {g0 g1 g2 g3 g4 g5 g6 g7 g8 d0 d1 d2 d3 d4 d5 d6 d7 d8 : Int} {nu : Addr} {nus : Array Value} {nn : Nat} {q1 q2 : Array Value} {mean : ExcName → Option Value} {mg mb : Str → Option Value} {dp un : Nat} {gd : Option (List Code)} {cn : Str} {cs : Scope} {a : Addr} {ccd : Value} {cl : List (Str × Addr)} {outer : List Env} {A₀ : Around} {base h₀ : Heap} {L : Addr} {m : Str → Option Value} {s : Shared} {Q E : Value → Shared → Prop} {sg : List (Fin 3)} {tT tm ta : Tok} {m0 : Fin 3} {i0 : Nat} (hn : sg.length ≤ 12) (hi0 : i0 < sg.length) (HZ : ∀ mi, pick d0 d1 d2 d3 d4 d5 d6 d7 d8 mi (sg.getD 0 2) ≠ 0)
    (B : Below A₀ base outer h₀) (F : Fr h₀ L s.heap m) (X : (KF w.params).In h₀) (N : News h₀ L s.heap [(pg, (⟨.ref 269, some dx, .plain, #[]⟩ : Obj)), (dx, dictOf [⟨hs, .str (Str.ofString "_headers") tt, .ref l⟩] 1), (l, W.listOf #[.ref a0, .ref a1, .ref a2, .ref a3, .ref a4, .ref a5, .ref a6, .ref a7, .ref a8] ln), (a0, ({ cls := .type "tuple", data := .seq [.str (Str.ofString "pf") t0, .str (PV g0 d0) u0].toArray } : Obj)), (a1, ({ cls := .type "tuple", data := .seq [.str (Str.ofString "pi") t1, .str (PV g1 d1) u1].toArray } : Obj)), (a2, ({ cls := .type "tuple", data := .seq [.str (Str.ofString "qf") t2, .str (PV g2 d2) u2].toArray } : Obj)), (a3, ({ cls := .type "tuple", data := .seq [.str (Str.ofString "qi") t3, .str (PV g3 d3) u3].toArray } : Obj)), (a4, ({ cls := .type "tuple", data := .seq [.str (Str.ofString "rf") t4, .str (PV g4 d4) u4].toArray } : Obj)), (a5, ({ cls := .type "tuple", data := .seq [.str (Str.ofString "ri") t5, .str (PV g5 d5) u5].toArray } : Obj)), (a6, ({ cls := .type "tuple", data := .seq [.str (Str.ofString "p.") t6, .str (PV g6 d6) u6].toArray } : Obj)), (a7, ({ cls := .type "tuple", data := .seq [.str (Str.ofString "q.") t7, .str (PV g7 d7) u7].toArray } : Obj)), (a8, ({ cls := .type "tuple", data := .seq [.str (Str.ofString "r.") t8, .str (PV g8 d8) u8].toArray } : Obj)), (nu, W.listOf nus nn), (104, tabObj q1), (111, tabObj q2)]) (T : Top topProg LN mean mg mb h₀) (hk : cs.kind = .function) (hd : dp + 8 < recursionLimit) (hu : un + 64 < cLine)
    (hret : ∀ tp ua ub h' tk', Fr h₀ L h' m → News h₀ L h' ((tp, tup2 (.str (outS (Plain.loopF (tabT (pick g0 g1 g2 g3 g4 g5 g6 g7 g8) (pick d0 d1 d2 d3 d4 d5 d6 d7 d8) sg) sg.length (3 * sg.length) (m0, i0) []).1) ua) (.str (padS (Plain.loopF (tabT (pick g0 g1 g2 g3 g4 g5 g6 g7 g8) (pick d0 d1 d2 d3 d4 d5 d6 d7 d8) sg) sg.length (3 * sg.length) (m0, i0) []) sg.length) ub)) :: [(pg, (⟨.ref 269, some dx, .plain, #[]⟩ : Obj)), (dx, dictOf [⟨hs, .str (Str.ofString "_headers") tt, .ref l⟩] 1), (l, W.listOf #[.ref a0, .ref a1, .ref a2, .ref a3, .ref a4, .ref a5, .ref a6, .ref a7, .ref a8] ln), (a0, ({ cls := .type "tuple", data := .seq [.str (Str.ofString "pf") t0, .str (PV g0 d0) u0].toArray } : Obj)), (a1, ({ cls := .type "tuple", data := .seq [.str (Str.ofString "pi") t1, .str (PV g1 d1) u1].toArray } : Obj)), (a2, ({ cls := .type "tuple", data := .seq [.str (Str.ofString "qf") t2, .str (PV g2 d2) u2].toArray } : Obj)), (a3, ({ cls := .type "tuple", data := .seq [.str (Str.ofString "qi") t3, .str (PV g3 d3) u3].toArray } : Obj)), (a4, ({ cls := .type "tuple", data := .seq [.str (Str.ofString "rf") t4, .str (PV g4 d4) u4].toArray } : Obj)), (a5, ({ cls := .type "tuple", data := .seq [.str (Str.ofString "ri") t5, .str (PV g5 d5) u5].toArray } : Obj)), (a6, ({ cls := .type "tuple", data := .seq [.str (Str.ofString "p.") t6, .str (PV g6 d6) u6].toArray } : Obj)), (a7, ({ cls := .type "tuple", data := .seq [.str (Str.ofString "q.") t7, .str (PV g7 d7) u7].toArray } : Obj)), (a8, ({ cls := .type "tuple", data := .seq [.str (Str.ofString "r.") t8, .str (PV g8 d8) u8].toArray } : Obj)), (nu, W.listOf nus nn), (104, tabObj q1), (111, tabObj q2)]) → Q (.ref tp) { s with heap := h', toks := tk' }) :
    wpAny (model PW w) (ktrTop dp un gd cn cs L a ccd cl outer) (call (.ref 306) [.ref pg, .str (tapeS sg) tT, .str (mL m0) tm, .int (i0 : Int) ta]) Q E s :=
  walk_okF (rest := []) hn hi0 HZ B F X N News.nil (fun _ h => nomatch h) T hk hd hu fun tp ua ub h' tk' F' N' _ _ => hret tp ua ub h' tk' F' N'
end Mine
end

section
local macro_rules | `(tactic| walk_at "execs cons") => `(tactic| (k_fold; walk_at "execs cons"))

section
open PySem PySem.W PyProof.Rows PySem.Spec PySem.Calls
set_option Elab.async false
set_option maxRecDepth 100000
namespace Mine
theorem kwn_CD : True := by
  k_with_none
  trivial
theorem fillCD : RW = RW ∧ KF = KF := by
  k_fill
  exact ⟨rfl, rfl⟩
set_option maxHeartbeats 0
set_option rowWalk.seconds 0
theorem iter_find {prog : Program} {w : World} {A : Around} {E : Value → Shared → Prop} {s : Shared} {env : Env} {h₀ : Heap} {x : Str} {body : List Stmt} {Q : Flow → Shared → Prop} {r : Addr} {a₀ b₀ : Int} {t₀ u₀ v₀ : Tok} {m₀ : Str → Option Value} {news : List (Addr × Obj)} (x5 : Str)
    (hh : A.handled = none) (hr : IsRange s.heap r a₀ b₀ 1 t₀ u₀ v₀) (ha : 0 ≤ a₀) (ha2 : a₀ < 1000) (hb : 0 ≤ b₀) (hz : b₀ < 1000) (F : Fr h₀ env.locals s.heap m₀) (N : News h₀ env.locals s.heap news)
    (turn : ∀ (k : Int) t mg h tk own, a₀ ≤ k → k < b₀ → OwnOff own (news.map (·.1)) → Fr h₀ env.locals h (fun z => if z = x then some (.int k t) else if z = x5 then mg else m₀ z) → News h₀ env.locals h (news ++ own) →
      wpAny (model prog w) A (execs body env) (InvPostN h₀ env.locals (fun m' nx => nx = news ∧ ∀ z, z ≠ x → z ≠ x5 → m' z = m₀ z) own (news.map (·.1)) { s with heap := h, toks := tk } Q) E { s with heap := h, toks := tk })
    (done : ∀ (m₁ : Str → Option Value) h tk, (∀ z, z ≠ x → z ≠ x5 → m₁ z = m₀ z) → Fr h₀ env.locals h m₁ → News h₀ env.locals h news → Q .next { s with heap := h, toks := tk }) :
    wpAny (model prog w) A (pyIter (.ref r)) (fun it s₂ => LoopAtV prog w A h₀ env x body Q E it s₂) E s := by
  have hn : Builtin.Range.rangeSize a₀ b₀ 1 = ((b₀ - a₀).toNat : Int) := rangeSize_nat _ _
  refine wpAny_pyIter_range hr (small_one (by omega) (by omega) (by omega) (by omega)) ?_
  have W : Walks prog w A s.heap.objs.size [s.heap.objs.size] [s.heap.objs.size] (b₀ - a₀).toNat (fun i v => i < (b₀ - a₀).toNat ∧ ∃ t, v = .int (a₀ + i * 1) t)
      (fun i h => IsRangeIter h s.heap.objs.size (a₀ + (i : Nat) * 1) (((b₀ - a₀).toNat : Int) - (i : Nat)) 1) := (Walks.range hh _ a₀ 1 _).bound
  refine loop_invN (fun _ m' nx => nx = news ∧ ∀ z, z ≠ x → z ≠ x5 → m' z = m₀ z) W ?_ ?_ ?_ ?_ (by show IsRangeIter _ _ _ _ _; rw [hn]; simpa using Heap.get?_push_size _ rfl) (F.push _) (fun p hp => ⟨Heap.get?_push_of_some _ (N p hp).1, (N p hp).2⟩) ⟨rfl, fun _ _ _ => rfl⟩ ?_ ?_
  · intro hm
    exact absurd F.ns.lt ((List.mem_singleton.mp hm) ▸ Nat.lt_irrefl _)
  · intro b hb
    rw [List.mem_singleton.mp hb]
    exact next_is_new F
  · intro p hp hI
    exact absurd (Heap.lt_size (N p hp).1) ((List.mem_singleton.mp hI) ▸ Nat.lt_irrefl _)
  · intro p hp hI
    exact absurd (Heap.lt_size (N p hp).1) ((List.mem_singleton.mp hI) ▸ Nat.lt_irrefl _)
  · rintro i v m₁ nx h tk own hin ⟨_, t, rfl⟩ _ hoff ⟨rfl, hm⟩ F' N'
    have e : (fun z => if z = x then some (Value.int (a₀ + (i : Int) * 1) t) else m₁ z) = fun z => if z = x then some (Value.int (a₀ + (i : Int) * 1) t) else if z = x5 then m₁ x5 else m₀ z := by
      funext z
      by_cases q1 : z = x
      · simp [q1]
      by_cases q2 : z = x5
      · subst q2; simp
      simp only [if_neg q1, if_neg q2]; exact hm z q1 q2
    rw [e] at F'
    exact turn _ t _ h tk own (by omega) (by omega) hoff F' N'
  · rintro m₁ nx h tk ⟨rfl, hm⟩ F' N'
    exact done m₁ h tk hm F' N'
theorem num_item {prog : Program} {w : World} {A : Around} {E : Value → Shared → Prop} {s : Shared} {value slice : PySem.Expr} {l : Addr} {n : Nat} {vs : List Value} {ks : List Int} {k : Int} {u : Tok} {Q : Value → Shared → Prop}
    (hl : s.heap.IsList l vs.toArray) (hi : IntsAre vs ks) (h0 : 0 ≤ k) (h1 : k < (ks.length : Int)) (hz : ks.length < 1000) (h : ∀ t, Q (.int (ks.getD k.toNat 0) t) s)
    (hs : subscripted slice false (.ref l) (.int k u) = operate [.ref l, .int k u] (getItem (.ref l) (.int k u)) := by with_unfolding_all rfl) :
    wpAny (model prog w) A (subscriptTail value slice (.ref l) (.int k u)) Q E s := by
  have e : ∃ t, vs[k.toNat]? = some (.int (ks.getD k.toNat 0) t) := by
    have h2 : k.toNat < ks.length := by omega
    clear hl h h0 h1 hz hs
    generalize k.toNat = j at h2
    induction hi generalizing j with
    | nil => exact absurd h2 (Nat.not_lt_zero _)
    | cons n t hr ih =>
      cases j with
      | zero => exact ⟨t, rfl⟩
      | succ j => exact ih j (Nat.lt_of_succ_lt_succ h2)
  obtain ⟨t, e⟩ := e
  exact tail_any hl.typeIs slot_list_getitem.lookup (wpAny_getItem_list hl h0 (by omega) (by simpa using e) (h t)) hs
theorem tapeS_app (a b : List (Fin 3)) : tapeS a ++ tapeS b = tapeS (a ++ b) := by
  show Str.mk _ = Str.mk _
  simp [tapeS]
theorem ind_upto : ∀ n : Nat, n < 13 → ∀ k : Nat, k < n + 1 → Builtin.Str.strSliceIndices none (some (k : Int)) 1 n = List.range k := by decide +kernel
theorem ind_from : ∀ n : Nat, n < 13 → ∀ k : Nat, k < n + 1 → Builtin.Str.strSliceIndices (some (k : Int)) none 1 n = (List.range (n - k)).map (k + ·) := by decide +kernel
theorem fm_take {α : Type} (l : List α) : ∀ k, (List.range k).filterMap (fun i => l[i]?) = l.take k
  | 0 => by simp
  | k + 1 => by
    rw [List.range_succ, List.filterMap_append, fm_take l k, List.take_add_one]
    cases h : l[k]? <;> simp [h]
theorem sl_upto {sg : List (Fin 3)} {k : Nat} (hn : sg.length ≤ 12) (hk : k ≤ sg.length) : Txt.slice (tapeS sg) none (some (k : Int)) = tapeS (sg.take k) := by
  unfold Txt.slice
  rw [tapeS_len, ind_upto _ (Nat.lt_succ_of_le hn) _ (Nat.lt_succ_of_le hk), List.length_range]
  split
  · rename_i h
    have e : k = sg.length := by simpa using h
    rw [e, List.take_length]
  · show Str.mk _ = Str.mk _
    congr 1
    have : (fun i : Nat => (tapeS sg).cps[i]?) = fun i : Nat => (sg.map sC)[i]? := by funext i; simp [tapeS]
    rw [this, fm_take, List.map_take]
theorem sl_from {sg : List (Fin 3)} {k : Nat} (hn : sg.length ≤ 12) (hk : k ≤ sg.length) : Txt.slice (tapeS sg) (some (k : Int)) none = tapeS (sg.drop k) := by
  unfold Txt.slice
  rw [tapeS_len, ind_from _ (Nat.lt_succ_of_le hn) _ (Nat.lt_succ_of_le hk), List.length_map, List.length_range]
  split
  · rename_i h
    have e : sg.length - k = sg.length := by simpa using h
    have e0 : k = 0 ∨ sg.length = 0 := by omega
    rcases e0 with e0 | e0
    · rw [e0, List.drop_zero]
    · have : sg = [] := List.eq_nil_of_length_eq_zero e0
      subst this; simp
  · show Str.mk _ = Str.mk _
    congr 1
    rw [List.filterMap_map]
    have : ((fun i : Nat => (tapeS sg).cps[i]?) ∘ fun i : Nat => k + i) = fun i : Nat => ((sg.drop k).map sC)[i]? := by funext i; simp [tapeS]
    rw [this, fm_take, ← List.map_take]
    congr 2
    rw [List.take_of_length_le]
    simp
theorem sl_cut {sg : List (Fin 3)} {i j : Int} (hn : sg.length ≤ 12) (h1 : 1 ≤ i) (h2 : i < j) (h3 : j ≤ (sg.length : Int)) : Txt.slice (tapeS sg) none (some i) ++ Txt.slice (tapeS sg) (some j) none = tapeS (sg.take i.toNat ++ sg.drop j.toNat) := by
  obtain ⟨a, rfl⟩ : ∃ a : Nat, i = a := ⟨i.toNat, by omega⟩
  obtain ⟨b, rfl⟩ : ∃ b : Nat, j = b := ⟨j.toNat, by omega⟩
  rw [sl_upto hn (by omega), sl_from hn (by omega), tapeS_app]
  simp
theorem cut_len {sg : List (Fin 3)} {i j : Int} (h1 : 1 ≤ i) (h2 : i < j) (h3 : j ≤ (sg.length : Int)) : 0 < (sg.take i.toNat ++ sg.drop j.toNat).length ∧ (sg.take i.toNat ++ sg.drop j.toNat).length ≤ sg.length := by
  simp only [List.length_append, List.length_take, List.length_drop]
  omega
theorem cut_head {sg : List (Fin 3)} {i j : Int} (h1 : 1 ≤ i) (h2 : i < j) (h3 : j ≤ (sg.length : Int)) : (sg.take i.toNat ++ sg.drop j.toNat).getD 0 2 = sg.getD 0 2 := by
  cases sg with
  | nil => simp at h3; omega
  | cons x r =>
    obtain ⟨k, hk⟩ : ∃ k, i.toNat = k + 1 := ⟨i.toNat - 1, by omega⟩
    rw [hk]; simp
end Mine
end

section
open PySem PySem.W PyProof.Rows PySem.Spec PySem.Calls
set_option Elab.async false
set_option maxRecDepth 100000
namespace Mine
theorem kwn_CU : True := by
  k_with_none
  trivial
theorem fillCU : RW = RW ∧ KF = KF := by
  k_fill
  exact ⟨rfl, rfl⟩
set_option maxHeartbeats 0
set_option rowWalk.seconds 0
theorem cut_ok {w : World} {ln : Nat} {pg dx l : Addr} {hs : Int} {tt : Tok} {a0 a1 a2 a3 a4 a5 a6 a7 a8 : Addr} {t0 t1 t2 t3 t4 t5 t6 t7 t8 u0 u1 u2 u3 u4 u5 u6 u7 u8 : Tok} {g0 g1 g2 g3 g4 g5 g6 g7 g8 d0 d1 d2 d3 d4 d5 d6 d7 d8 : Int} {nu : Addr} {vs : List Value} {nn : Nat} {q1 q2 : Array Value} {mean : ExcName → Option Value} {mg mb : Str → Option Value} {dp un : Nat} {gd : Option (List Code)} {cn : Str} {cs : Scope} {a : Addr} {ccd : Value} {cl : List (Str × Addr)} {outer : List Env} {A₀ : Around} {base h₀ : Heap} {L : Addr} {m : Str → Option Value} {s : Shared} {Q E : Value → Shared → Prop} {sg : List (Fin 3)} {tT tl : Tok} {ks : List Int} {last : Str} (hn : sg.length ≤ 12) (hks : ks.length = sg.length + 1) (hvs : IntsAre vs ks) (hsg : sg.getD 0 2 = 2) (HZ : ∀ mi, pick d0 d1 d2 d3 d4 d5 d6 d7 d8 mi 2 ≠ 0)
    (HM : ∀ i j : Nat, 1 ≤ i → i < j → j ≤ sg.length → ks.getD i 0 = ks.getD j 0 → outS (Plain.loopF (tabT (pick g0 g1 g2 g3 g4 g5 g6 g7 g8) (pick d0 d1 d2 d3 d4 d5 d6 d7 d8) (sg.take i ++ sg.drop j)) (sg.take i ++ sg.drop j).length (3 * (sg.take i ++ sg.drop j).length) (0, 0) []).1 = last)
    (B : Below A₀ base outer h₀) (F : Fr h₀ L s.heap m) (X : (KF w.params).In h₀) (N : News h₀ L s.heap [(pg, (⟨.ref 269, some dx, .plain, #[]⟩ : Obj)), (dx, dictOf [⟨hs, .str (Str.ofString "_headers") tt, .ref l⟩] 1), (l, W.listOf #[.ref a0, .ref a1, .ref a2, .ref a3, .ref a4, .ref a5, .ref a6, .ref a7, .ref a8] ln), (a0, ({ cls := .type "tuple", data := .seq [.str (Str.ofString "pf") t0, .str (PV g0 d0) u0].toArray } : Obj)), (a1, ({ cls := .type "tuple", data := .seq [.str (Str.ofString "pi") t1, .str (PV g1 d1) u1].toArray } : Obj)), (a2, ({ cls := .type "tuple", data := .seq [.str (Str.ofString "qf") t2, .str (PV g2 d2) u2].toArray } : Obj)), (a3, ({ cls := .type "tuple", data := .seq [.str (Str.ofString "qi") t3, .str (PV g3 d3) u3].toArray } : Obj)), (a4, ({ cls := .type "tuple", data := .seq [.str (Str.ofString "rf") t4, .str (PV g4 d4) u4].toArray } : Obj)), (a5, ({ cls := .type "tuple", data := .seq [.str (Str.ofString "ri") t5, .str (PV g5 d5) u5].toArray } : Obj)), (a6, ({ cls := .type "tuple", data := .seq [.str (Str.ofString "p.") t6, .str (PV g6 d6) u6].toArray } : Obj)), (a7, ({ cls := .type "tuple", data := .seq [.str (Str.ofString "q.") t7, .str (PV g7 d7) u7].toArray } : Obj)), (a8, ({ cls := .type "tuple", data := .seq [.str (Str.ofString "r.") t8, .str (PV g8 d8) u8].toArray } : Obj)), (nu, W.listOf vs.toArray nn), (104, tabObj q1), (111, tabObj q2)]) (T : Top topProg LN mean mg mb h₀) (hk : cs.kind = .function) (hd : dp + 10 < recursionLimit) (hu : un + 80 < cLine)
    (hret : ∀ h' tk', Fr h₀ L h' m → News h₀ L h' [(pg, (⟨.ref 269, some dx, .plain, #[]⟩ : Obj)), (dx, dictOf [⟨hs, .str (Str.ofString "_headers") tt, .ref l⟩] 1), (l, W.listOf #[.ref a0, .ref a1, .ref a2, .ref a3, .ref a4, .ref a5, .ref a6, .ref a7, .ref a8] ln), (a0, ({ cls := .type "tuple", data := .seq [.str (Str.ofString "pf") t0, .str (PV g0 d0) u0].toArray } : Obj)), (a1, ({ cls := .type "tuple", data := .seq [.str (Str.ofString "pi") t1, .str (PV g1 d1) u1].toArray } : Obj)), (a2, ({ cls := .type "tuple", data := .seq [.str (Str.ofString "qf") t2, .str (PV g2 d2) u2].toArray } : Obj)), (a3, ({ cls := .type "tuple", data := .seq [.str (Str.ofString "qi") t3, .str (PV g3 d3) u3].toArray } : Obj)), (a4, ({ cls := .type "tuple", data := .seq [.str (Str.ofString "rf") t4, .str (PV g4 d4) u4].toArray } : Obj)), (a5, ({ cls := .type "tuple", data := .seq [.str (Str.ofString "ri") t5, .str (PV g5 d5) u5].toArray } : Obj)), (a6, ({ cls := .type "tuple", data := .seq [.str (Str.ofString "p.") t6, .str (PV g6 d6) u6].toArray } : Obj)), (a7, ({ cls := .type "tuple", data := .seq [.str (Str.ofString "q.") t7, .str (PV g7 d7) u7].toArray } : Obj)), (a8, ({ cls := .type "tuple", data := .seq [.str (Str.ofString "r.") t8, .str (PV g8 d8) u8].toArray } : Obj)), (nu, W.listOf vs.toArray nn), (104, tabObj q1), (111, tabObj q2)] → Q (.bool true) { s with heap := h', toks := tk' }) :
    wpAny (model PW w) (ktrTop dp un gd cn cs L a ccd cl outer) (call (.ref 325) [.ref pg, .str (tapeS sg) tT, .ref nu, .str last tl]) Q E s := by
  have tln := tapeS_len sg
  have vl : vs.length = ks.length := hvs.length
  k_with_none
  k_with "call ref" => (rw [sl_cut hn (by assumption) (by assumption) (by omega)])
  k_with "call ref" => (k_dflt (refine' walk_ok (m0 := 0) (i0 := 0) (nu := nu) (nus := vs.toArray) (nn := nn) (q1 := q1) (q2 := q2) ?hn ?hi ?hz ?k1 ?k2 ?k3 ?k4 ?k5 ?kK ?kd ?ku ?_; (case hn => exact Nat.le_trans (cut_len (by assumption) (by assumption) (by omega)).2 hn); (case hi => exact (cut_len (by assumption) (by assumption) (by omega)).1); (case hz => (intro mi; rw [cut_head (by assumption) (by assumption) (by omega), hsg]; exact HZ mi)); (case k1 => k_asm); (case k2 => k_asm); (case k3 => k_asm); (case k4 => exact cb_drop (by k_asm) (SubL.mem (by k_subL))); (case k5 => k_asm); (case kK => first | exact rfl | assumption); (case kd => ktr_room); (case ku => ktr_units)); intro tp9 ua9 ub9 h9 tk9 F9 N9; (try k_sweep); (try dsimp only); (try k_fold))
  k_with "pyIter ref" => ((rename Fr _ _ _ _ => lF'); (rename News _ _ _ _ => lN'); (rename IsRange _ _ _ _ _ _ _ _ => rgX); (k_dflt (refine' iter_find (Str.ofString "i") ?hh rgX ?ha ?ha2 ?hb ?hz lF' lN' (fun kk t9 mg9 h9 tk9 own9 hlo hhi hoff9 F9 N9 => ?_) (fun m9 h9 tk9 hm9 F9 N9 => ?_); (case hh => exact rfl); (case ha => decide); (case ha2 => decide); (case hb => omega); (case hz => omega))); (all_goals (try clear lF' lN')); (all_goals (try simp only [List.nil_append, List.cons_append, List.append_nil] at N9)); (all_goals (try k_fold)))
  refine wpAny_call ?_
  k_dflt cell_enter
  k_steps
  all_goals first
    | (rename (_ = _) => hEq
       (have e := HM _ _ (by omega) (by omega) (by omega) hEq)
       rw [e, beq_self_eq_true]
       exact hret _ _ (by k_asm) (cb_drop (by k_asm) (SubL.mem (by k_subL))))
    | (refine InvEndN.intro (by assumption) (by assumption) ⟨rfl, ?fm⟩ (by rfl) (fun p hp => List.mem_append_left _ hp) (fun p hp => List.mem_append_right _ hp)
       first
         | (intro z z1 z2; simp [z1, z2]; done)
         | (intro z z1 z2; rw [hm9 z z2 z2]; simp [z1, z2]; done))
    | exact hret _ _ (by k_asm) (cb_drop (by k_asm) (SubL.mem (by k_subL)))
end Mine
end

section
open PySem PySem.W PyProof.Rows PySem.Spec PySem.Calls PyProof.V
open PyProof.Rows.LCg (NsObj Off3 Off1 lst ns_obj fr_but news_but)
set_option Elab.async false
set_option maxRecDepth 100000
namespace Mine
theorem kwn_CX : True := by
  k_with_none
  trivial
section
variable {prog : Program} {w : World} {A : Around} {E : Value → Shared → Prop} {s : Shared} {h₀ : Heap} {L : Addr} {m : Str → Option Value}
/-- the loop of one clause of a comprehension, whatever a turn does with its item -/
theorem loopX {elt : PySem.Expr} {gens : List Comprehension} {scope : Scope} {pos : Pos} {d : Nat} {it acc : Value} {env : Env} {R : Result → Shared → Prop} {p : Pos} {body : Value → Sem Fin}
    (heq : compTurn (.ListComp elt gens scope pos) d it acc env = (standAt p >>= fun _ => pyNext it >>= fun r => match r with
      | none => pure (.done .next)
      | some v => body v))
    (I : Nat → Shared → Prop)
    (turn : ∀ n s, I n s → wpAny (model prog w) A (pyNext it) (fun r s₁ => match r with
      | none => R (.ok .next) s₁
      | some v => wpAny (model prog w) A (body v) (fun f s₂ => f = .again (.compLoop (.ListComp elt gens scope pos) d it acc env) ∧ ∃ k, k < n ∧ I k s₂) (notedBy (model prog w) A env fun x s' => R (.error x) s') s₁) (notedBy (model prog w) A env fun x s' => R (.error x) s') s)
    (n : Nat) (h : I n s) : codeAny (model prog w) A (.compLoop (.ListComp elt gens scope pos) d it acc env) R s := by
  refine codeAny_loop rfl I (fun n s hI => ?_) n h
  show wpAny _ A ((compTurn (.ListComp elt gens scope pos) d it acc env).onRaise (fun x => do noteFrame x env; theTreesLotGoes x)) _ _ s
  refine wpAny_noted ?_
  rw [heq]
  refine wpAny_bind (wpAny_standAt (wpAny_bind (wpAny_mono (turn n s hI) (fun r s₁ h₁ => ?_) fun _ _ h' => h')))
  cases r with
  | none => exact wpAny_pure h₁
  | some v => exact wpAny_mono h₁ (fun f s₂ h₂ => by obtain ⟨rfl, h₃⟩ := h₂; exact ⟨rfl, h₃⟩) fun _ _ h' => h'

noncomputable def XEnd (h₀ : Heap) (L : Addr) (m : Str → Option Value) (s₁ : Shared) (I : Addr) (oI : Obj) (C D : Addr) (S : List (Addr × Obj) → Prop) (rest : List Value → List (Addr × Obj) → Prop) (s₂ : Shared) : Prop :=
  ∃ h' tk oC m₂ ys news, s₂ = { s₁ with heap := h', toks := tk } ∧ Fr h₀ L h' m ∧ NsObj oC m₂ ∧ News h₀ L h' ((I, oI) :: (C, oC) :: (D, lst ys) :: news) ∧ Off3 I C D news ∧ S news ∧ rest ys news
noncomputable def XRest (prog : Program) (w : World) (A : Around) (h₀ : Heap) (L : Addr) (m : Str → Option Value) (s : Shared) (I C D : Addr) (body : Value → Sem Fin) (c : Code) (S : List (Addr × Obj) → Prop) (P : Nat → Value → Prop) (St : Nat → Heap → Prop)
    (Fin : List Value → List (Addr × Obj) → Prop) : Nat → Nat → List Value → List (Addr × Obj) → Prop
  | 0, _, ys, news => Fin ys news
  | k + 1, i, ys, news => ∀ v oI oC m₂ h tk (E' : Value → Shared → Prop), P i v → NsObj oC m₂ → Fr h₀ L h m → News h₀ L h ((I, oI) :: (C, oC) :: (D, lst ys) :: news) → Off3 I C D news → S news → St (i + 1) h →
      wpAny (model prog w) A (body v) (fun f s₂ => f = .again c ∧ XEnd h₀ L m { s with heap := h, toks := tk } I oI C D S (fun ys' news' => XRest prog w A h₀ L m s I C D body c S P St Fin k (i + 1) ys' news') s₂) E' { s with heap := h, toks := tk }

theorem compX {elt : PySem.Expr} {gens : List Comprehension} {scope : Scope} {pos : Pos} {d : Nat} {env : Env} {R : Result → Shared → Prop} {p : Pos} {body : Value → Sem Fin} {I C D : Addr} {fp : List Addr} {n : Nat} {P : Nat → Value → Prop} {St : Nat → Heap → Prop} {S : List (Addr × Obj) → Prop} {news : List (Addr × Obj)} {ys : List Value} {mC : Str → Option Value}
    {Fin : List Value → List (Addr × Obj) → Prop}
    (heq : compTurn (.ListComp elt gens scope pos) d (.ref I) (.ref D) env = (standAt p >>= fun _ => pyNext (.ref I) >>= fun r => match r with
      | none => pure (.done .next)
      | some v => body v))
    (W : Walks prog w A I fp [I] n P St) (hIo : ∀ i h, St i h → ∃ o, h.get? I = some o)
    (hSt : ∀ i h h' o nw, St i h → h.get? I = some o → h'.get? I = some o → (∀ b o, h₀.get? b = some o → h'.get? b = some o) → News h₀ L h' nw → S nw → St i h')
    (hIL : L ≠ I) (hI₀ : h₀.get? I = none) (hCL : C ≠ L) (hC₀ : h₀.get? C = none) (hCI : I ≠ C) (hDI : I ≠ D)
    (hst : St 0 s.heap) (F : Fr h₀ L s.heap m) (hn : s.heap.Ns C mC) (N : News h₀ L s.heap ((D, lst ys) :: news)) (off : Off3 I C D news) (hS : S news)
    (hR : XRest prog w A h₀ L m s I C D body (.compLoop (.ListComp elt gens scope pos) d (.ref I) (.ref D) env) S P St Fin n 0 ys news)
    (hdone : ∀ h tk mC ys news, Fr h₀ L h m → h.Ns C mC → News h₀ L h ((D, lst ys) :: news) → Off3 I C D news → S news → Fin ys news → R (.ok .next) { s with heap := h, toks := tk }) :
    codeAny (model prog w) A (.compLoop (.ListComp elt gens scope pos) d (.ref I) (.ref D) env) R s := by
  refine loopX heq (fun k s' => ∃ h' tk i ys m' news', s' = { s with heap := h', toks := tk } ∧ i ≤ n ∧ k = n + 1 - i ∧ St i h' ∧ Fr h₀ L h' m ∧ h'.Ns C m' ∧ News h₀ L h' ((D, lst ys) :: news') ∧ Off3 I C D news' ∧ S news' ∧
      XRest prog w A h₀ L m s I C D body (.compLoop (.ListComp elt gens scope pos) d (.ref I) (.ref D) env) S P St Fin (n - i) i ys news') ?_ (n + 1) ⟨_, _, 0, ys, mC, news, rfl, Nat.zero_le _, rfl, hst, F, hn, N, off, hS, hR⟩
  rintro k s' ⟨h', tk, i, ys, m', news', rfl, hi, rfl, hst', F', hn', N', off', hS', R'⟩
  have off3 := off'.mem
  by_cases hlt : i < n
  · obtain ⟨j, hj⟩ : ∃ j, n - i = j + 1 := ⟨n - i - 1, by omega⟩
    rw [hj] at R'
    refine W.item i _ _ _ hlt hst' fun v h₂ tk₂ hPv hst₂ hk₂ => ?_
    obtain ⟨oI, heI⟩ := hIo _ _ hst₂
    obtain ⟨oC, heC, hoC⟩ := ns_obj (hn'.at' fun o e => hk₂ _ o (by simpa using Ne.symm hCI) e)
    have N₂ : News h₀ L h₂ ((D, lst ys) :: news') := news_but N' hk₂ fun p hp => by
      rcases List.mem_cons.mp hp with rfl | hp
      · exact Ne.symm hDI
      · exact (off3 p hp).1
    refine wpAny_mono (R' v oI oC _ h₂ tk₂ _ hPv hoC (fr_but F' hk₂ hIL hI₀) (fun p hp => ?_) off' hS' hst₂) (fun f s₄ h₄ => ?_) fun _ _ e => e
    · rcases List.mem_cons.mp hp with rfl | hp
      · exact ⟨heI, Ne.symm hIL, hI₀⟩
      · rcases List.mem_cons.mp hp with rfl | hp
        · exact ⟨heC, hCL, hC₀⟩
        · exact N₂ p hp
    · obtain ⟨rfl, h₄, tk₄, oC₄, m₄, ys₄, news₄, rfl, F₄, hoC₄, N₄, off₄, hS₄, R₄⟩ := h₄
      have N₄' : News h₀ L h₄ news₄ := fun p hp => N₄ p (.tail _ (.tail _ (.tail _ hp)))
      refine ⟨rfl, n + 1 - (i + 1), by omega, h₄, tk₄, i + 1, ys₄, m₄, news₄, rfl, hlt, rfl, hSt _ _ _ _ _ hst₂ heI (N₄ (I, oI) (.head _)).1 F₄.keep N₄' hS₄, F₄, hoC₄.ns (N₄ (C, oC₄) (.tail _ (.head _))).1, fun p hp => N₄ p (.tail _ (.tail _ hp)), off₄, hS₄, ?_⟩
      rw [show n - (i + 1) = j by omega]
      exact R₄
  · obtain rfl : i = n := Nat.le_antisymm hi (Nat.not_lt.mp hlt)
    rw [Nat.sub_self] at R'
    refine W.done _ _ _ hst' fun h₂ tk₂ hk₂ => ?_
    exact hdone h₂ tk₂ m' ys news' (fr_but F' hk₂ hIL hI₀) (hn'.at' fun o e => hk₂ _ o (by simpa using Ne.symm hCI) e) (news_but N' hk₂ fun p hp => by
      rcases List.mem_cons.mp hp with rfl | hp
      · exact Ne.symm hDI
      · exact (off3 p hp).1) off' hS' R'

theorem next_new {h₀ h : Heap} {L : Addr} {m : Str → Option Value} (F : Fr h₀ L h m) {b : Addr} (hb : h.objs.size ≤ b) : h₀.get? b = none := by
  cases e : h₀.get? b with
  | none => rfl
  | some o => exact absurd (Heap.lt_size (F.keep b o e)) (Nat.not_lt.mpr hb)
/-- a list comprehension whose first clause goes over a list of the ledger -/
theorem comp_list {elt tgt iter : PySem.Expr} {ifs : List PySem.Expr} {gs : List Comprehension} {scope : Scope} {pos : Pos} {env : Env} {cl : List (Str × Addr)} {ax : Addr} {its : Array Value} {n0 : Nat} {Q : Value → Shared → Prop} {S : List (Addr × Obj) → Prop} {news : List (Addr × Obj)}
    {body : Addr → Addr → Addr → Value → Sem Fin} {p : Pos} {Fin : Addr → List Value → List (Addr × Obj) → Prop}
    (heq : ∀ I C D, compTurn (.ListComp elt (⟨tgt, iter, ifs, 0⟩ :: gs) scope pos) 0 (.ref I) (.ref D) (compEnvC scope cl C env) = (standAt p >>= fun _ => pyNext (.ref I) >>= fun r => match r with
      | none => pure (.done .next)
      | some v => body I C D v))
    (hh : A.handled = none) (hclos : closureFor scope env = pure cl) (hcell : ∀ y ∈ scope.names, y.2 ≠ .cell) (hkind : scope.kind = .function)
    (hnames : ∀ y ∈ scope.names, y.2 = .local → scope.names.lookup y.1 = some .local)
    (F : Fr h₀ L s.heap m) (N : News h₀ L s.heap news) (hax : (ax, W.listOf its n0) ∈ news) (hS : S news) (hSa : ∀ nw, S nw → (ax, W.listOf its n0) ∈ nw)
    (hR : ∀ I C D s', (∀ p ∈ news, @LT.lt Nat _ p.1 I) → @LT.lt Nat _ I D → @LT.lt Nat _ D C → s'.gens = s.gens → s'.drawn = s.drawn → s'.os = s.os →
      XRest prog w A h₀ L m s' I C D (body I C D) (.compLoop (.ListComp elt (⟨tgt, iter, ifs, 0⟩ :: gs) scope pos) 0 (.ref I) (.ref D) (compEnvC scope cl C env)) S (fun i v => its[i]? = some v) (fun i h => h.IsListIter I ax i ∧ h.IsList ax its) (Fin D) its.size 0 [] news)
    (hfin : ∀ D h tk ys news', Fr h₀ L h m → News h₀ L h ((D, lst ys) :: news') → (∀ p ∈ news', p.1 ≠ D) → S news' → Fin D ys news' → Q (.ref D) { s with heap := h, toks := tk })
    (hs : ∀ x, foldedSetIterable iter env x = pure x := by intro _; rfl)
    (hev : wpAny (model prog w) A (eval iter env) (fun v s' => v = .ref ax ∧ s' = s) E s) :
    wpAny (model prog w) A (eval (.ListComp elt (⟨tgt, iter, ifs, 0⟩ :: gs) scope pos) env) Q E s := by
  rw [eval_ListComp]
  refine wpAny_comprehension_free (use := none) rfl hs hclos hkind hnames (wpAny_mono hev (fun xv s₁ h₁ => ?_) fun _ _ e => e)
  obtain ⟨rfl, rfl⟩ := h₁
  have hl : s₁.heap.IsList ax its := ⟨_, (N _ hax).1, rfl, _, rfl⟩
  have hlt : ax < s₁.heap.objs.size := Heap.lt_size (N _ hax).1
  refine wpAny_pyIter_list hl ?_
  refine wpAny_newObj_type (wpAny_newFunctionEnv hcell (by intro y hy; simp at hy) (fun h₁ hns₁ hsb₁ => ?_) hkind)
  dsimp only at hns₁ hsb₁ ⊢
  generalize hH1 : s₁.heap.push { cls := .type "list_iterator", data := .fields #[.ref ax, .int 0 0] } = H1 at hns₁ hsb₁ ⊢
  generalize hH2 : H1.push { cls := .type "list", dict := none, data := .seq ([] : List Value).toArray } = H2 at hns₁ hsb₁ ⊢
  have z1 : H1.objs.size = s₁.heap.objs.size + 1 := by rw [← hH1, Heap.size_push]
  have z2 : H2.objs.size = s₁.heap.objs.size + 2 := by rw [← hH2, Heap.size_push, z1]
  have old1 : ∀ b o, s₁.heap.get? b = some o → H1.get? b = some o := fun b o e => by rw [← hH1]; exact Heap.get?_push_of_some _ e
  have old2 : ∀ b o, H1.get? b = some o → H2.get? b = some o := fun b o e => by rw [← hH2]; exact Heap.get?_push_of_some _ e
  have hb2 : ∀ b o, H2.get? b = some o → b ≠ H2.objs.size := fun b o e => Nat.ne_of_lt (Heap.lt_size e)
  have old : ∀ b o, s₁.heap.get? b = some o → h₁.get? b = some o := fun b o e => hsb₁.extBut b o (hb2 _ _ (old2 _ _ (old1 _ _ e))) (Heap.get?_push_of_some _ (old2 _ _ (old1 _ _ e)))
  have hI : H1.get? s₁.heap.objs.size = some { cls := .type "list_iterator", data := .fields #[.ref ax, .int 0 0] } := by rw [← hH1]; exact Heap.get?_push_size _ rfl
  have hI1 : h₁.get? s₁.heap.objs.size = some { cls := .type "list_iterator", data := .fields #[.ref ax, .int 0 0] } := hsb₁.extBut _ _ (hb2 _ _ (old2 _ _ hI)) (Heap.get?_push_of_some _ (old2 _ _ hI))
  have hD : H2.get? H1.objs.size = some (lst []) := by rw [← hH2]; exact Heap.get?_push_size _ rfl
  have hD1 : h₁.get? H1.objs.size = some (lst []) := hsb₁.extBut _ _ (hb2 _ _ hD) (Heap.get?_push_of_some _ hD)
  have F1 : Fr h₀ L h₁ m := F.keeps old
  have Llt := F.ns.lt
  have lt0 : ∀ p ∈ news, @LT.lt Nat _ p.1 s₁.heap.objs.size := fun p hp => Heap.lt_size (N p hp).1
  have cI : s₁.heap.objs.size ≠ H2.objs.size := by rw [z2]; exact Nat.ne_of_lt (by omega)
  have dI : s₁.heap.objs.size ≠ H1.objs.size := by rw [z1]; exact Nat.ne_of_lt (by omega)
  have loop : codeAny (model prog w) A (.compLoop (.ListComp elt (⟨tgt, iter, ifs, 0⟩ :: gs) scope pos) 0 (.ref s₁.heap.objs.size) (.ref H1.objs.size) (compEnvC scope cl H2.objs.size env)) (compPost (model prog w) A E none Q (.ref H1.objs.size) H2.objs.size)
      { s₁ with heap := h₁, toks := s₁.toks + ([] : List (Str × Value)).length } := by
    refine compX (s := { s₁ with heap := h₁, toks := s₁.toks + ([] : List (Str × Value)).length }) (heq _ _ _) (Walks.list hh s₁.heap.objs.size ax (Nat.ne_of_lt hlt) its) (fun i h st => by obtain ⟨o, e, _⟩ := st.1; exact ⟨o, e⟩)
      (fun i h h' o nw st e1 e2 _ NN SS => ?_) (Nat.ne_of_lt Llt) (next_new F (Nat.le_refl _)) (fun q => ?_) (next_new F (by rw [z2]; omega)) cI dI
      ⟨⟨_, hI1, rfl, rfl⟩, ⟨_, old _ _ (N _ hax).1, rfl, _, rfl⟩⟩ F1 hns₁ (fun p hp => ?_) (Off3.of fun p hp => ⟨Nat.ne_of_lt (lt0 p hp), Nat.ne_of_lt (Nat.lt_trans (lt0 p hp) (by rw [z2]; omega)), Nat.ne_of_lt (Nat.lt_trans (lt0 p hp) (by rw [z1]; omega))⟩) hS (hR _ _ _ _ lt0 (by rw [z1]; omega) (by rw [z1, z2]; omega) rfl rfl rfl) (fun h tk mC ys nw F' hn N' off' S' fin => ?_)
    · refine ⟨?_, ⟨_, (NN _ (hSa _ SS)).1, rfl, _, rfl⟩⟩
      obtain ⟨o', e, r⟩ := st.1
      rw [e1] at e; cases e
      exact ⟨_, e2, r⟩
    · rw [z2] at q; exact absurd Llt (by rw [← q]; exact Nat.not_lt.mpr (by omega))
    · rcases List.mem_cons.mp hp with rfl | hp
      · exact ⟨hD1, fun q => absurd Llt (by rw [← q, z1]; exact Nat.not_lt.mpr (by omega)), next_new F (by rw [z1]; omega)⟩
      · exact ⟨old _ _ (N p hp).1, (N p hp).2⟩
    · have o3 := off'.mem
      have hC₀ : h₀.get? H2.objs.size = none := next_new F (by rw [z2]; omega)
      have hCL : H2.objs.size ≠ L := fun q => absurd Llt (by rw [← q, z2]; exact Nat.not_lt.mpr (by omega))
      refine ⟨mC, hn, fun h'' hs'' => hfin _ h'' tk ys nw (F'.change hs'' hCL hC₀) (fun p hp => ?_) (fun p hp => (o3 p hp).2.2) S' fin⟩
      refine ⟨hs''.extBut _ _ ?_ (N' p hp).1, (N' p hp).2⟩
      rcases List.mem_cons.mp hp with rfl | hp
      · rw [z1, z2]; exact Nat.ne_of_lt (by omega)
      · exact (o3 p hp).2.1
  refine codeAny_compStart_list loop ?_
  refine (Walks.list hh s₁.heap.objs.size ax (Nat.ne_of_lt hlt) its).self 0 _ _ _ ⟨⟨_, hI1, rfl, rfl⟩, ⟨_, old _ _ (N _ hax).1, rfl, _, rfl⟩⟩ loop
end
end Mine
end

section
open PySem PySem.W PyProof.Rows PySem.Spec PySem.Calls PyProof.V
open PyProof.Rows.LCg (NsObj Off3 Off1 lst ns_obj fr_but news_but lst_snoc)
set_option Elab.async false
set_option maxRecDepth 100000
namespace Mine
theorem kwn_CY : True := by
  k_with_none
  trivial
section
variable {prog : Program} {w : World} {A : Around} {E : Value → Shared → Prop} {s : Shared} {h₀ : Heap} {L : Addr} {m : Str → Option Value}
noncomputable def upd (x : Str) (v : Value) (m : Str → Option Value) : Str → Option Value := fun y => if y = x then some v else m y
theorem put_name {env : Env} {x : Str} {px : Pos} {v : Value} {mC : Str → Option Value} {Q : Unit → Shared → Prop} (hk : env.kindOf x = some .local) (hs : env.scope.kind = .function) (hn : s.heap.Ns env.locals mC)
    (q : ∀ h' tk, h'.Ns env.locals (upd x v mC) → (∀ b o, b ≠ env.locals → s.heap.get? b = some o → h'.get? b = some o) → Q () { s with heap := h', toks := tk }) :
    wpAny (model prog w) A (assign (.Name x px) env v) Q E s :=
  wpAny_assign_Name (wpAny_storeName_local hk hn (fun h' hn' hs' => q h' _ hn' fun b o hb e => hs'.extBut b o hb e) (by rw [hs]; rfl))
theorem put2 {env : Env} {a b : Str} {pa pb tp : Pos} {k : Nat} {T : Addr} {x y : Value} {mC : Str → Option Value} {Q : Unit → Shared → Prop} (hh : A.handled = none) (ka : env.kindOf a = some .local) (kb : env.kindOf b = some .local) (hs : env.scope.kind = .function) (hn : s.heap.Ns env.locals mC)
    (ht : IsTup s.heap T #[x, y])
    (q : ∀ h' tk, h'.Ns env.locals (upd b y (upd a x mC)) → (∀ b o, b ≠ env.locals → s.heap.get? b = some o → h'.get? b = some o) → Q () { s with heap := h', toks := tk }) :
    wpAny (model prog w) A (assign (.Tuple [.Name a pa, .Name b pb] k tp) env (.ref T)) Q E s := by
  refine assign_Tuple_tuple hh ht rfl rfl fun h₁ e₁ => ?_
  have up : ∀ b o, s.heap.get? b = some o → h₁.get? b = some o := fun b o e => e₁ b o (Nat.ne_of_lt (Heap.lt_size e)) e
  refine assignInOrder_cons (put_name ka hs (hn.at' fun o e => up _ o e) fun h₂ t₂ n₂ k₂ => ?_)
  refine assignInOrder_cons (put_name kb hs n₂ fun h₃ t₃ n₃ k₃ => ?_)
  exact assignInOrder_nil (q h₃ t₃ n₃ fun b o hb e => k₃ b o hb (k₂ b o hb (up b o e)))
theorem put3 {env : Env} {a b c : Str} {pa pb pc tp : Pos} {k : Nat} {T : Addr} {x y z : Value} {mC : Str → Option Value} {Q : Unit → Shared → Prop} (hh : A.handled = none) (ka : env.kindOf a = some .local) (kb : env.kindOf b = some .local) (kc : env.kindOf c = some .local) (hs : env.scope.kind = .function) (hn : s.heap.Ns env.locals mC)
    (ht : IsTup s.heap T #[x, y, z])
    (q : ∀ h' tk, h'.Ns env.locals (upd c z (upd b y (upd a x mC))) → (∀ b o, b ≠ env.locals → s.heap.get? b = some o → h'.get? b = some o) → Q () { s with heap := h', toks := tk }) :
    wpAny (model prog w) A (assign (.Tuple [.Name a pa, .Name b pb, .Name c pc] k tp) env (.ref T)) Q E s := by
  refine assign_Tuple_tuple hh ht rfl rfl fun h₁ e₁ => ?_
  have up : ∀ b o, s.heap.get? b = some o → h₁.get? b = some o := fun b o e => e₁ b o (Nat.ne_of_lt (Heap.lt_size e)) e
  refine assignInOrder_cons (put_name ka hs (hn.at' fun o e => up _ o e) fun h₂ t₂ n₂ k₂ => ?_)
  refine assignInOrder_cons (put_name kb hs n₂ fun h₃ t₃ n₃ k₃ => ?_)
  refine assignInOrder_cons (put_name kc hs n₃ fun h₄ t₄ n₄ k₄ => ?_)
  exact assignInOrder_nil (q h₄ t₄ n₄ fun b o hb e => k₄ b o hb (k₃ b o hb (k₂ b o hb (up b o e))))
/-- a state of a comprehension's turn -/
noncomputable def XAt (h₀ : Heap) (L : Addr) (m : Str → Option Value) (I : Addr) (oI : Obj) (C D : Addr) (ys : List Value) (news : List (Addr × Obj)) (mC : Str → Option Value) (h : Heap) : Prop :=
  ∃ oC, Fr h₀ L h m ∧ NsObj oC mC ∧ News h₀ L h ((I, oI) :: (C, oC) :: (D, lst ys) :: news)
theorem XAt.store {I C D : Addr} {oI : Obj} {ys : List Value} {news : List (Addr × Obj)} {mC mC' : Str → Option Value} {h h' : Heap} (x : XAt h₀ L m I oI C D ys news mC h) (hn : h'.Ns C mC') (hk : ∀ b o, b ≠ C → h.get? b = some o → h'.get? b = some o)
    (hIC : I ≠ C) (hDC : D ≠ C) (off : Off3 I C D news) : XAt h₀ L m I oI C D ys news mC' h' := by
  obtain ⟨oC, F, _, N⟩ := x
  have NC := N (C, oC) (.tail _ (.head _))
  obtain ⟨oC', e, ho⟩ := ns_obj hn
  refine ⟨oC', fr_but F (I := C) (fun b o hb e => hk b o (by simpa using hb) e) (Ne.symm NC.2.1) NC.2.2, ho, fun p hp => ?_⟩
  rcases List.mem_cons.mp hp with rfl | hp
  · have z := N _ (List.Mem.head _); exact ⟨hk _ _ hIC z.1, z.2⟩
  rcases List.mem_cons.mp hp with rfl | hp
  · exact ⟨e, NC.2⟩
  have z := N p (.tail _ (.tail _ hp))
  rcases List.mem_cons.mp hp with rfl | hp
  · exact ⟨hk _ _ hDC z.1, z.2⟩
  · exact ⟨hk _ _ (off.mem p hp).2.1 z.1, z.2⟩
theorem XAt.ns {I C D : Addr} {oI : Obj} {ys : List Value} {news : List (Addr × Obj)} {mC : Str → Option Value} {h : Heap} (x : XAt h₀ L m I oI C D ys news mC h) : h.Ns C mC := by
  obtain ⟨oC, _, ho, N⟩ := x
  exact ho.ns (N _ (.tail _ (.head _))).1
/-- a made item goes to the end of the list -/
theorem push_item {I C D : Addr} {oI : Obj} {ys : List Value} {news : List (Addr × Obj)} {mC : Str → Option Value} {y : Value} {Q : Value → Shared → Prop} (hsz : ys.length ≤ sizeLine) (x : XAt h₀ L m I oI C D ys news mC s.heap) (off : Off3 I C D news) (hID : I ≠ D) (hCD : C ≠ D)
    (q : ∀ v h', XAt h₀ L m I oI C D (ys ++ [y]) news mC h' → Q v { s with heap := h' }) : wpAny (model prog w) A (call (.builtin "list.append") [.ref D, y]) Q E s := by
  obtain ⟨oC, F, ho, N⟩ := x
  have zD := N (D, lst ys) (.tail _ (.tail _ (.head _)))
  refine append_at (hsz := by show ys.toArray.size ≤ sizeLine; rw [List.size_toArray]; exact hsz) zD.1 fun h₅ hs₅ hD₅ => ?_
  refine q _ _ ⟨oC, F.change hs₅ zD.2.1 zD.2.2, ho, fun p hp => ?_⟩
  rcases List.mem_cons.mp hp with rfl | hp
  · have z := N _ (List.Mem.head _); exact ⟨hs₅.extBut _ _ hID z.1, z.2⟩
  rcases List.mem_cons.mp hp with rfl | hp
  · have z := N _ (.tail _ (List.Mem.head _)); exact ⟨hs₅.extBut _ _ hCD z.1, z.2⟩
  rcases List.mem_cons.mp hp with rfl | hp
  · exact ⟨hD₅.trans (congrArg some (lst_snoc ys y)), zD.2⟩
  · have z := N p (.tail _ (.tail _ (.tail _ hp))); exact ⟨hs₅.extBut _ _ (off.mem p hp).2.2 z.1, z.2⟩
end
end Mine
end

section
open PySem PySem.W PyProof.Rows PySem.Spec PySem.Calls
set_option Elab.async false
set_option maxRecDepth 100000
namespace Mine
theorem kwn_OT : True := by
  k_with_none
  trivial
theorem fillOT : RW = RW ∧ KF = KF := by
  k_fill
  exact ⟨rfl, rfl⟩
set_option maxHeartbeats 0
set_option rowWalk.seconds 0
noncomputable def outI (k : Int → Int) (G D : Int → Int) : Nat → Int → Int
  | 0, _ => 0
  | n + 1, x => if x = 0 then 0 else if D x = 0 then outI k G D n (k (G x)) else G x
noncomputable def kI (k0 k1 k2 k3 : Int) (y : Int) : Int := [k0, k1, k2, k3].getD y.toNat 0
theorem outI_stop {k G D : Int → Int} {n : Nat} {x : Int} (h : x = 0) : outI k G D (n + 1) x = 0 := by unfold outI; rw [if_pos h]
theorem outI_out {k G D : Int → Int} {n : Nat} {x : Int} (h : x ≠ 0) (h2 : D x ≠ 0) : outI k G D (n + 1) x = G x := by rw [outI, if_neg h, if_neg h2]
theorem outI_go {k G D : Int → Int} {n : Nat} {x : Int} (h : x ≠ 0) (h2 : D x = 0) : outI k G D (n + 1) x = outI k G D n (k (G x)) := by rw [outI, if_neg h, if_pos h2]
noncomputable def keyS (x : Int) (c : Fin 3) : Str := ⟨#[lC (tg x), sC c]⟩
theorem mindItem {w : World} {A : Around} {E : Value → Shared → Prop} {s : Shared} {value slice : PySem.Expr} {x : Int} {t u : Tok} {Q : Value → Shared → Prop} (h0 : 1 ≤ x) (h1 : x < 4) (h : ∀ t k, Q (.str (mL (tg x)) t) { s with toks := k })
    (hs : subscripted slice false (.str (Str.ofString "-pqr") t) (.int x u) = operate [.str (Str.ofString "-pqr") t, .int x u] (getItem (.str (Str.ofString "-pqr") t) (.int x u)) := by with_unfolding_all rfl)
    (hsub : ∀ y, 1 ≤ y → y < 4 → ∀ Q' : Value → Shared → Prop, (Q' (.str (Txt.item (Str.ofString "-pqr") y) s.toks) { s with toks := s.toks + 1 }) → wpAny (model PW w) A (subscriptTail value slice (.str (Str.ofString "-pqr") t) (.int y u)) Q' E s) :
    wpAny (model PW w) A (subscriptTail value slice (.str (Str.ofString "-pqr") t) (.int x u)) Q E s := by
  refine hsub x h0 h1 Q ?_
  have e : Txt.item (Str.ofString "-pqr") x = mL (tg x) := by
    have hx : x = 1 ∨ x = 2 ∨ x = 3 := by omega
    rcases hx with rfl | rfl | rfl <;> decide +kernel
  rw [e]; exact h _ _
theorem addKey {w : World} {A : Around} {E : Value → Shared → Prop} {s : Shared} {Q : Value → Shared → Prop} {x : Int} {c : Fin 3} {t u : Tok} (h : ∀ t' k, Q (.str (keyS x c) t') { s with toks := k }) :
    wpAny (model PW w) A (binaryOp .Add (.str (mL (tg x)) t) (.str ⟨#[sC c]⟩ u)) Q E s := by
  rw [mL_eq]
  exact add_str (fun t' k => h t' k) (by show 1 + 1 ≤ sizeLine; decide)
theorem toldItem {w : World} {A : Around} {E : Value → Shared → Prop} {s : Shared} {h₀ : Heap} {L td : Addr} {od : Obj} {news : List (Addr × Obj)} {value slice : PySem.Expr} {x : Int} {c : Fin 3} {t : Tok} {c0 c1 c2 c3 c4 c5 c6 c7 c8 : Addr} {Q : Value → Shared → Prop} (N : News h₀ L s.heap news) (hm : (td, od) ∈ news)
    (hd : od.IsDictOf (strKind PW w) [(Str.ofString "pf", Value.ref c0), (Str.ofString "pi", Value.ref c1), (Str.ofString "qf", Value.ref c2), (Str.ofString "qi", Value.ref c3), (Str.ofString "rf", Value.ref c4), (Str.ofString "ri", Value.ref c5), (Str.ofString "p.", Value.ref c6), (Str.ofString "q.", Value.ref c7), (Str.ofString "r.", Value.ref c8)]) (h : Q (.ref (pick c0 c1 c2 c3 c4 c5 c6 c7 c8 (tg x) c)) { s with toks := s.toks + 1 })
    (hs : subscripted slice false (.ref td) (.str (keyS x c) t) = operate [.ref td, .str (keyS x c) t] (getItem (.ref td) (.str (keyS x c) t)) := by with_unfolding_all rfl) :
    wpAny (model PW w) A (subscriptTail value slice (.ref td) (.str (keyS x c) t)) Q E s := by
  refine kdt_tail (knd := strKind PW w) N hm hd (kdt_getItem (knd := strKind PW w) (k := keyS x c) N hm hd (strKind_is _ _ _ _) (v := .ref (pick c0 c1 c2 c3 c4 c5 c6 c7 c8 (tg x) c)) ?_ h) hs
  rcases fin3 (tg x) with e | e | e <;> rcases fin3 c with rfl | rfl | rfl <;> (unfold keyS; rw [e]; rfl)
theorem toldItem2 {w : World} {A : Around} {E : Value → Shared → Prop} {s : Shared} {h₀ : Heap} {L td : Addr} {od : Obj} {news : List (Addr × Obj)} {value slice : PySem.Expr} {x : Int} {c : Fin 3} {t : Tok} {c0 c1 c2 c3 c4 c5 c6 c7 c8 : Addr} {Q : Value → Shared → Prop} (h0 : 1 ≤ x) (h1 : x < 4) (N : News h₀ L s.heap news) (hm : (td, od) ∈ news)
    (hd : od.IsDictOf (strKind PW w) [(Str.ofString "pf", Value.ref c0), (Str.ofString "pi", Value.ref c1), (Str.ofString "qf", Value.ref c2), (Str.ofString "qi", Value.ref c3), (Str.ofString "rf", Value.ref c4), (Str.ofString "ri", Value.ref c5), (Str.ofString "p.", Value.ref c6), (Str.ofString "q.", Value.ref c7), (Str.ofString "r.", Value.ref c8)]) (h : Q (.ref (pick c0 c1 c2 c3 c4 c5 c6 c7 c8 (tg x) c)) { s with toks := s.toks + 1 })
    (hs : ∀ key, subscripted slice false (.ref td) (.str key t) = operate [.ref td, .str key t] (getItem (.ref td) (.str key t)) := by intro _; with_unfolding_all rfl) :
    wpAny (model PW w) A (subscriptTail value slice (.ref td) (.str (Txt.item (Str.ofString "-pqr") x ++ ⟨#[sC c]⟩) t)) Q E s := by
  have e : Txt.item (Str.ofString "-pqr") x = mL (tg x) := by
    have hx : x = 1 ∨ x = 2 ∨ x = 3 := by omega
    rcases hx with rfl | rfl | rfl <;> decide +kernel
  have e2 : Txt.item (Str.ofString "-pqr") x ++ ⟨#[sC c]⟩ = keyS x c := by rw [e, mL_eq]; rfl
  rw [e2]
  exact toldItem N hm hd h (hs _)
theorem kIb {k0 k1 k2 k3 y : Int} (h0 : 0 ≤ k0 ∧ k0 < 4) (h1 : 0 ≤ k1 ∧ k1 < 4) (h2 : 0 ≤ k2 ∧ k2 < 4) (h3 : 0 ≤ k3 ∧ k3 < 4) : 0 ≤ kI k0 k1 k2 k3 y ∧ kI k0 k1 k2 k3 y < 4 := by
  unfold kI
  match y.toNat with
  | 0 => exact h0
  | 1 => exact h1
  | 2 => exact h2
  | 3 => exact h3
  | _ + 4 => exact ⟨Int.le_refl _, show (0 : Int) < 4 by decide⟩
theorem knItem {w : World} {A : Around} {E : Value → Shared → Prop} {s : Shared} {h₀ : Heap} {L kn : Addr} {news : List (Addr × Obj)} {value slice : PySem.Expr} {k0 k1 k2 k3 y : Int} {tk0 tk1 tk2 tk3 u : Tok} {nk : Nat} {Q : Value → Shared → Prop} (N : News h₀ L s.heap news) (hm : (kn, W.listOf #[.int k0 tk0, .int k1 tk1, .int k2 tk2, .int k3 tk3] nk) ∈ news)
    (h0 : 0 ≤ y) (h1 : y < 4) (b0 : 0 ≤ kI k0 k1 k2 k3 y) (b1 : kI k0 k1 k2 k3 y < 4) (h : ∀ t z, z = kI k0 k1 k2 k3 y → 0 ≤ z → z < 4 → Q (.int z t) s) (hs : subscripted slice false (.ref kn) (.int y u) = operate [.ref kn, .int y u] (getItem (.ref kn) (.int y u)) := by with_unfolding_all rfl) :
    wpAny (model PW w) A (subscriptTail value slice (.ref kn) (.int y u)) Q E s :=
  num_item (n := 0) (ks := [k0, k1, k2, k3]) ⟨_, (N _ hm).1, rfl, _, rfl⟩ (.cons _ _ (.cons _ _ (.cons _ _ (.cons _ _ .nil)))) h0 (by simpa using h1) (by show (4 : Nat) < 1000; decide) (fun t => h t _ rfl b0 b1) hs
theorem tup_at {h₀ h : Heap} {L a : Addr} {x y : Value} {news : List (Addr × Obj)} (N : News h₀ L h news) (hm : (a, tup2 x y) ∈ news) : IsTup h a #[x, y] := ⟨_, (N _ hm).1, rfl, _, rfl⟩
theorem told_tup {h₀ h : Heap} {L : Addr} {kn td : Addr} {k0 k1 k2 k3 : Int} {tk0 tk1 tk2 tk3 : Tok} {nk : Nat} {od : Obj} {c0 c1 c2 c3 c4 c5 c6 c7 c8 : Addr} {g0 g1 g2 g3 g4 g5 g6 g7 g8 d0 d1 d2 d3 d4 d5 d6 d7 d8 : Int} {gt0 gt1 gt2 gt3 gt4 gt5 gt6 gt7 gt8 rt0 rt1 rt2 rt3 rt4 rt5 rt6 rt7 rt8 : Tok} {m c : Fin 3} (N : News h₀ L h [(kn, W.listOf #[.int k0 tk0, .int k1 tk1, .int k2 tk2, .int k3 tk3] nk), (td, od), (c0, tup2 (.int g0 gt0) (.int d0 rt0)), (c1, tup2 (.int g1 gt1) (.int d1 rt1)), (c2, tup2 (.int g2 gt2) (.int d2 rt2)), (c3, tup2 (.int g3 gt3) (.int d3 rt3)), (c4, tup2 (.int g4 gt4) (.int d4 rt4)), (c5, tup2 (.int g5 gt5) (.int d5 rt5)), (c6, tup2 (.int g6 gt6) (.int d6 rt6)), (c7, tup2 (.int g7 gt7) (.int d7 rt7)), (c8, tup2 (.int g8 gt8) (.int d8 rt8))]) : IsTup h (pick c0 c1 c2 c3 c4 c5 c6 c7 c8 m c) #[.int (pick g0 g1 g2 g3 g4 g5 g6 g7 g8 m c) (pick gt0 gt1 gt2 gt3 gt4 gt5 gt6 gt7 gt8 m c), .int (pick d0 d1 d2 d3 d4 d5 d6 d7 d8 m c) (pick rt0 rt1 rt2 rt3 rt4 rt5 rt6 rt7 rt8 m c)] := by
  rcases fin3 m with rfl | rfl | rfl <;> rcases fin3 c with rfl | rfl | rfl <;> exact tup_at N (by k_mem)
theorem putF2 {prog : Program} {w : World} {A : Around} {E : Value → Shared → Prop} {s : Shared} {h₀ : Heap} {L a : Addr} {m : Str → Option Value} {news : List (Addr × Obj)} {nm : Str} {sc : Scope} {cd : Value} {x1 x2 : Str} {p1 p2 tp : Pos} {k : Nat} {T : Addr} {v1 v2 : Value} {Q : Unit → Shared → Prop}
    (F : Fr h₀ L s.heap m) (N : News h₀ L s.heap news) (hh : A.handled = none) (ht : IsTup s.heap T #[v1, v2]) (hk : sc.kind = .function) (k1 : (envOf nm sc L a cd).kindOf x1 = some .local) (k2 : (envOf nm sc L a cd).kindOf x2 = some .local)
    (q : ∀ h' tk, Fr h₀ L h' (fun y => if y = x2 then some v2 else if y = x1 then some v1 else m y) → News h₀ L h' news → Q () { s with heap := h', toks := tk }) :
    wpAny (model prog w) A (assign (.Tuple [.Name x1 p1, .Name x2 p2] k tp) (envOf nm sc L a cd) (.ref T)) Q E s := by
  refine assign_Tuple_tuple hh ht rfl rfl fun h₁ e₁ => ?_
  have up : ∀ b o, s.heap.get? b = some o → h₁.get? b = some o := fun b o e => e₁ b o (Nat.ne_of_lt (Heap.lt_size e)) e
  have F1 : Fr h₀ L h₁ m := F.keeps up
  have N1 : News h₀ L h₁ news := fun p hp => ⟨up _ _ (N p hp).1, (N p hp).2⟩
  refine assignInOrder_cons (wpAny_assign_Name (stN F1 N1 (fun h₂ F2 N2 => ?_) hk k1))
  refine assignInOrder_cons (wpAny_assign_Name (stN F2 N2 (fun h₃ F3 N3 => ?_) hk k2))
  exact assignInOrder_nil (q h₃ _ F3 N3)
end Mine
end

section
open PySem PySem.W PyProof.Rows PySem.Spec PySem.Calls
set_option Elab.async false
set_option maxRecDepth 100000
namespace Mine
theorem kwn_OO : True := by
  k_with_none
  trivial
theorem fillOO : RW = RW ∧ KF = KF := by
  k_fill
  exact ⟨rfl, rfl⟩
set_option maxHeartbeats 0
set_option rowWalk.seconds 0
theorem pickG {c m : Fin 3} {g0 g1 g2 g3 g4 g5 g6 g7 g8 : Int} (hg0 : 1 ≤ g0 ∧ g0 < 4) (hg1 : 1 ≤ g1 ∧ g1 < 4) (hg2 : 1 ≤ g2 ∧ g2 < 4) (hg3 : 1 ≤ g3 ∧ g3 < 4) (hg4 : 1 ≤ g4 ∧ g4 < 4) (hg5 : 1 ≤ g5 ∧ g5 < 4) (hg6 : 1 ≤ g6 ∧ g6 < 4) (hg7 : 1 ≤ g7 ∧ g7 < 4) (hg8 : 1 ≤ g8 ∧ g8 < 4) : 1 ≤ pick g0 g1 g2 g3 g4 g5 g6 g7 g8 m c ∧ pick g0 g1 g2 g3 g4 g5 g6 g7 g8 m c < 4 := by
  rcases fin3 m with rfl | rfl | rfl <;> rcases fin3 c with rfl | rfl | rfl <;> assumption
theorem out_ok {w : World} {kn td : Addr} {k0 k1 k2 k3 : Int} {tk0 tk1 tk2 tk3 : Tok} {nk : Nat} {od : Obj} {c0 c1 c2 c3 c4 c5 c6 c7 c8 : Addr} {g0 g1 g2 g3 g4 g5 g6 g7 g8 d0 d1 d2 d3 d4 d5 d6 d7 d8 : Int} {gt0 gt1 gt2 gt3 gt4 gt5 gt6 gt7 gt8 rt0 rt1 rt2 rt3 rt4 rt5 rt6 rt7 rt8 : Tok} {mean : ExcName → Option Value} {mg mb : Str → Option Value} {dp un : Nat} {gd : Option (List Code)} {cn : Str} {cs : Scope} {a : Addr} {ccd : Value} {cl : List (Str × Addr)} {outer : List Env} {A₀ : Around} {base h₀ : Heap} {L : Addr} {m : Str → Option Value} {s : Shared} {Q E : Value → Shared → Prop} {rest : List (Addr × Obj)} {c : Fin 3} {x : Int} {tx ts : Tok} (hx0 : 0 ≤ x) (hx1 : x < 4) (hk0 : 0 ≤ k0 ∧ k0 < 4) (hk1 : 0 ≤ k1 ∧ k1 < 4) (hk2 : 0 ≤ k2 ∧ k2 < 4) (hk3 : 0 ≤ k3 ∧ k3 < 4) (hg0 : 1 ≤ g0 ∧ g0 < 4) (hg1 : 1 ≤ g1 ∧ g1 < 4) (hg2 : 1 ≤ g2 ∧ g2 < 4) (hg3 : 1 ≤ g3 ∧ g3 < 4) (hg4 : 1 ≤ g4 ∧ g4 < 4) (hg5 : 1 ≤ g5 ∧ g5 < 4) (hg6 : 1 ≤ g6 ∧ g6 < 4) (hg7 : 1 ≤ g7 ∧ g7 < 4) (hg8 : 1 ≤ g8 ∧ g8 < 4)
    (ho : od.IsDictOf (strKind PW w) [(Str.ofString "pf", Value.ref c0), (Str.ofString "pi", Value.ref c1), (Str.ofString "qf", Value.ref c2), (Str.ofString "qi", Value.ref c3), (Str.ofString "rf", Value.ref c4), (Str.ofString "ri", Value.ref c5), (Str.ofString "p.", Value.ref c6), (Str.ofString "q.", Value.ref c7), (Str.ofString "r.", Value.ref c8)])
    (B : Below A₀ base outer h₀) (F : Fr h₀ L s.heap m) (X : (KF w.params).In h₀) (N : News h₀ L s.heap [(kn, W.listOf #[.int k0 tk0, .int k1 tk1, .int k2 tk2, .int k3 tk3] nk), (td, od), (c0, tup2 (.int g0 gt0) (.int d0 rt0)), (c1, tup2 (.int g1 gt1) (.int d1 rt1)), (c2, tup2 (.int g2 gt2) (.int d2 rt2)), (c3, tup2 (.int g3 gt3) (.int d3 rt3)), (c4, tup2 (.int g4 gt4) (.int d4 rt4)), (c5, tup2 (.int g5 gt5) (.int d5 rt5)), (c6, tup2 (.int g6 gt6) (.int d6 rt6)), (c7, tup2 (.int g7 gt7) (.int d7 rt7)), (c8, tup2 (.int g8 gt8) (.int d8 rt8))]) (NR : News h₀ L s.heap rest) (off : ∀ p ∈ rest, p.1 ∉ [(kn, W.listOf #[.int k0 tk0, .int k1 tk1, .int k2 tk2, .int k3 tk3] nk), (td, od), (c0, tup2 (.int g0 gt0) (.int d0 rt0)), (c1, tup2 (.int g1 gt1) (.int d1 rt1)), (c2, tup2 (.int g2 gt2) (.int d2 rt2)), (c3, tup2 (.int g3 gt3) (.int d3 rt3)), (c4, tup2 (.int g4 gt4) (.int d4 rt4)), (c5, tup2 (.int g5 gt5) (.int d5 rt5)), (c6, tup2 (.int g6 gt6) (.int d6 rt6)), (c7, tup2 (.int g7 gt7) (.int d7 rt7)), (c8, tup2 (.int g8 gt8) (.int d8 rt8))].map (·.1)) (T : Top topProg LN mean mg mb h₀) (hk : cs.kind = .function) (hd : dp + 3 < recursionLimit) (hu : un + 24 < cLine)
    (hret : ∀ t h' tk', Fr h₀ L h' m → News h₀ L h' [(kn, W.listOf #[.int k0 tk0, .int k1 tk1, .int k2 tk2, .int k3 tk3] nk), (td, od), (c0, tup2 (.int g0 gt0) (.int d0 rt0)), (c1, tup2 (.int g1 gt1) (.int d1 rt1)), (c2, tup2 (.int g2 gt2) (.int d2 rt2)), (c3, tup2 (.int g3 gt3) (.int d3 rt3)), (c4, tup2 (.int g4 gt4) (.int d4 rt4)), (c5, tup2 (.int g5 gt5) (.int d5 rt5)), (c6, tup2 (.int g6 gt6) (.int d6 rt6)), (c7, tup2 (.int g7 gt7) (.int d7 rt7)), (c8, tup2 (.int g8 gt8) (.int d8 rt8))] → News h₀ L h' rest → Q (.int (outI (kI k0 k1 k2 k3) (fun y => (pick g0 g1 g2 g3 g4 g5 g6 g7 g8 (tg y) c)) (fun y => (pick d0 d1 d2 d3 d4 d5 d6 d7 d8 (tg y) c)) 3 x) t) { s with heap := h', toks := tk' }) :
    wpAny (model PW w) (ktrTop dp un gd cn cs L a ccd cl outer) (call (.ref 313) [.ref kn, .int x tx, .str ⟨#[sC c]⟩ ts, .ref td]) Q E s := by
  have HG : ∀ m, 1 ≤ pick g0 g1 g2 g3 g4 g5 g6 g7 g8 m c ∧ pick g0 g1 g2 g3 g4 g5 g6 g7 g8 m c < 4 := fun m => pickG hg0 hg1 hg2 hg3 hg4 hg5 hg6 hg7 hg8
  have hret' : ∀ v t h' tk', v = outI (kI k0 k1 k2 k3) (fun y => (pick g0 g1 g2 g3 g4 g5 g6 g7 g8 (tg y) c)) (fun y => (pick d0 d1 d2 d3 d4 d5 d6 d7 d8 (tg y) c)) 3 x → Fr h₀ L h' m → News h₀ L h' [(kn, W.listOf #[.int k0 tk0, .int k1 tk1, .int k2 tk2, .int k3 tk3] nk), (td, od), (c0, tup2 (.int g0 gt0) (.int d0 rt0)), (c1, tup2 (.int g1 gt1) (.int d1 rt1)), (c2, tup2 (.int g2 gt2) (.int d2 rt2)), (c3, tup2 (.int g3 gt3) (.int d3 rt3)), (c4, tup2 (.int g4 gt4) (.int d4 rt4)), (c5, tup2 (.int g5 gt5) (.int d5 rt5)), (c6, tup2 (.int g6 gt6) (.int d6 rt6)), (c7, tup2 (.int g7 gt7) (.int d7 rt7)), (c8, tup2 (.int g8 gt8) (.int d8 rt8))] → News h₀ L h' rest → Q (.int v t) { s with heap := h', toks := tk' } := by
    rintro v t h' tk' rfl
    exact hret t h' tk'
  clear hret
  k_with_none
  have KB : ∀ y, 0 ≤ kI k0 k1 k2 k3 y ∧ kI k0 k1 k2 k3 y < 4 := fun y => kIb hk0 hk1 hk2 hk3
  k_with "assign Tuple cons" => ((rename Fr _ _ _ _ => lF'); (rename News _ _ _ _ => lN'); (k_dflt (refine' putF2 lF' lN' ?hh (told_tup (kn := kn) (td := td) (od := od) (k0 := k0) (k1 := k1) (k2 := k2) (k3 := k3) (cb_drop lN' (SubL.mem (by k_subL)))) ?hk ?q1 ?q2 ?_; (case hh => exact rfl); (case hk => exact rfl); (case q1 => exact rfl); (case q2 => exact rfl))); intro h8 k8 F8 N8)
  k_with "assign Tuple cons ref" => ((rename Fr _ _ _ _ => lF'); (rename News _ _ _ _ => lN'); (k_dflt (refine' putF2 lF' lN' ?hh (told_tup (kn := kn) (td := td) (od := od) (k0 := k0) (k1 := k1) (k2 := k2) (k3 := k3) (cb_drop lN' (SubL.mem (by k_subL)))) ?hk ?q1 ?q2 ?_; (case hh => exact rfl); (case hk => exact rfl); (case q1 => exact rfl); (case q2 => exact rfl))); intro h8 k8 F8 N8)
  k_with "assign Tuple ref" => ((rename Fr _ _ _ _ => lF'); (rename News _ _ _ _ => lN'); (k_dflt (refine' putF2 lF' lN' ?hh (told_tup (kn := kn) (td := td) (od := od) (k0 := k0) (k1 := k1) (k2 := k2) (k3 := k3) (cb_drop lN' (SubL.mem (by k_subL)))) ?hk ?q1 ?q2 ?_; (case hh => exact rfl); (case hk => exact rfl); (case q1 => exact rfl); (case q2 => exact rfl))); intro h8 k8 F8 N8)
  k_with "assign" => ((rename Fr _ _ _ _ => lF'); (rename News _ _ _ _ => lN'); (k_dflt (refine' putF2 lF' lN' ?hh (told_tup (kn := kn) (td := td) (od := od) (k0 := k0) (k1 := k1) (k2 := k2) (k3 := k3) (cb_drop lN' (SubL.mem (by k_subL)))) ?hk ?q1 ?q2 ?_; (case hh => exact rfl); (case hk => exact rfl); (case q1 => exact rfl); (case q2 => exact rfl))); intro h8 k8 F8 N8)
  k_with "!subscriptTail Name Name ref int" => ((with_reducible show wpAny _ _ (subscriptTail _ _ (Value.ref _) (Value.int (pick _ _ _ _ _ _ _ _ _ _ _) _)) _ _ _); (k_dflt (refine knItem (by k_asm) (by k_mem) (Int.le_trans (by decide) (HG _).1) (HG _).2 (KB _).1 (KB _).2 ?_ (by with_unfolding_all rfl))); intro t8 z8 ez8 bz0 bz1)
  k_with "subscriptTail" => ((with_reducible show wpAny _ _ (subscriptTail _ _ (Value.ref _) (Value.str (HAppend.hAppend _ _) _)) _ _ _); (k_dflt (refine toldItem2 ?b0 ?b1 (by k_asm) (by k_mem) ho ?_ (by intro _; with_unfolding_all rfl))); (case b0 => omega); (case b1 => omega))
  refine wpAny_call ?_
  k_dflt (refine' code_defPF (rest := rest) ?k1 ?k2 ?k3 ?k4 ?kr1 ?kr2 ?k5 ?kA ?kF ?kK ?k6 ?k7 ?k8 ?k9 ?kB ?_ ?c2 ?c3 ?c4 ?c5; (case kA => exact rfl); (case kF => exact rfl); (case kK => first | exact rfl | assumption); (case k1 => k_asm); (case k2 => k_asm); (case k3 => k_asm); (case k4 => exact N); (case kr1 => exact NR); (case kr2 => exact off); (case k5 => k_asm); (case k6 => k_is); (case k7 => k_is); (case k8 => ktr_room); (case k9 => first | exact BindsTo.of_eq rfl | exact binds_K (by k_in) rfl (by k_is) rfl rfl rfl); (case c5 => decide); (case kB => exact locs rfl); (case c2 => exact rfl); (case c3 => exact rfl); (case c4 => exact rfl); k_whole; intro g' L' h' HB FG' F' N' B' X' T' l1 LR; (try k_lt l1); (try dsimp only); (try k_lift B'); (try k_fold); refine fold_ae ?_; intro eK AK)
  k_steps
  all_goals (unfold RestR; dsimp only; rename News _ _ _ _ => kN9; intro NR'; refine hret' _ _ _ _ ?_ (by k_asm) (cb_drop kN9 (SubL.mem (by k_subL))) NR'; (try subst_vars); (repeat (first | rw [outI_stop (by first | assumption | exact Eq.symm (by assumption))] | rw [outI_out (by assumption) (by assumption)] | rw [outI_go (by assumption) (by assumption)])); (try rfl))
end Mine
end

section
open PySem PySem.W PyProof.Rows PySem.Spec PySem.Calls PyProof.V
set_option Elab.async false
set_option maxRecDepth 100000
set_option maxHeartbeats 1000000
namespace Mine
theorem kwn_DF : True := by
  k_with_none
  trivial
section
variable {prog : Program} {w : World} {A : Around} {E : Value → Shared → Prop} {s : Shared}
theorem keys_miss : typeLookup (.type "list") (Str.ofString "keys") = pure none := am_miss_of_fast (by kernel_rfl)
theorem keys_none {a : Addr} {xs : Array Value} {k : Nat} {Q : Option Value → Shared → Prop} (hx : s.heap.get? a = some (W.listOf xs k)) (hA : A.handled = none)
    (h : ∀ h' tk, (∀ b o, s.heap.get? b = some o → h'.get? b = some o) → Q none { s with heap := h', toks := tk }) : wpAny (model prog w) A (getAttr? (.ref a) (Str.ofString "keys")) Q E s := by
  obtain ⟨hp, g, d, tk, os⟩ := s
  have hT : ∀ tk', (⟨hp, g, d, tk', os⟩ : Shared).TypeIs (.ref a) "list" := fun _ => ⟨_, hx, rfl⟩
  have f1 := sub_AttributeError
  have f3 := PySem.F.slot_list_getattribute.lookup
  have f4 := PySem.F.slot_list_getattribute.bind (.ref a)
  have f5 := am_list_getattr_none
  unfold getAttr? getAttrBy? getAttrBy
  repeat (any_goals (first | assumption | exact hT _ | ((with_reducible show wpAny _ _ (call (Value.builtin "list.__getattribute__") _ _) _ _ _); refine call_meets PySem.F.slot_list_getattribute (hT _) am_entry_list_getattribute (PySem.F.args_list_getattribute_2 _ _) (meets_getattribute_miss_list a xs k _ (Str.ofString "keys") _ keys_miss (by decide +kernel) (by size_fits)) ⟨hx, hA, fun h' tk' e hx' => ?_⟩) | wp_step))
  obtain ⟨t', u', he⟩ := hx'.there
  show wpAny _ _ (getattributeRaised _ _ _ _ _ _ _) _ _ _
  unfold getattributeRaised
  repeat (any_goals (first | assumption | wp_step))
  exact h _ _ hx'.of.keeps

theorem entry_upd : entryFor table "dict.update.loop" = some Builtin.«dict.update.loop» := entryFor_of_tree (by kernel_rfl)
theorem plain_upd : plainId "dict.update.loop" = true := by decide +kernel
theorem stored_new {K : Type} [DecidableEq K] {kvs : List (K × Value)} {k : K} {v : Value} (h : k ∉ kvs.map (·.1)) : stored kvs k v = kvs ++ [(k, v)] := by
  unfold stored
  rw [if_neg]
  intro q
  obtain ⟨p, hp, e⟩ := List.any_eq_true.mp q
  exact h (List.mem_map.mpr ⟨p, hp, by simpa using e⟩)
theorem pair_items {T : Addr} {x y : Value} {Q : List Value → Shared → Prop} (ht : IsTup s.heap T #[x, y]) (h : Q [x, y] s) : wpAny (model prog w) A (Builtin.Dict.pairItems (.ref T)) Q E s := by
  obtain ⟨o, ho, hc, n, hd⟩ := ht
  have hT : s.TypeIs (.ref T) "tuple" := ⟨o, ho, hc⟩
  obtain ⟨c, dct, dat, sl⟩ := o
  simp only at hc hd
  subst hc hd
  obtain ⟨hp, g, d, tk, os⟩ := s
  unfold Builtin.Dict.pairItems
  refine wpAny_bind (wpAny_typeOf hT ?_)
  repeat (any_goals (first | assumption | wp_step))
/-- the loop of dict(..) over a list of pairs with texts as keys -/
theorem upd_loop {I d ax : Addr} {items : List (Addr × Str × Tok × Value)} {R : Result → Shared → Prop} (hh : A.handled = none) (hne : ax ≠ I) (hdI : d ≠ I) (hda : d ≠ ax) (hlen : items.length ≤ 1000) (hnd : (items.map (·.2.1)).Nodup) (h0 : Heap)
    (ht : ∀ p ∈ items, IsTup h0 p.1 #[.str p.2.1 p.2.2.1, p.2.2.2] ∧ p.1 ≠ d ∧ p.1 ≠ I) :
    ∀ (k i : Nat) (s : Shared), items.length - i = k → i ≤ items.length → s.heap.IsListIter I ax i → s.heap.IsList ax (items.map fun p => Value.ref p.1).toArray → (∀ b o, b ≠ d → b ≠ I → h0.get? b = some o → s.heap.get? b = some o) →
      s.heap.DictOf (strKind prog w) d ((items.take i).map fun p => (p.2.1, p.2.2.2)) →
      (∀ h' tk, (∀ b o, b ≠ d → b ≠ I → s.heap.get? b = some o → h'.get? b = some o) → h'.DictOf (strKind prog w) d (items.map fun p => (p.2.1, p.2.2.2)) → R (.ok (.ret .none)) { s with heap := h', toks := tk }) →
      codeAny (model prog w) A (.builtin "dict.update.loop" ⟨[.ref d, .ref I, rawInt i, .none], []⟩) R s := by
  have W : Walks prog w A.in1 I [I, ax] [I] (items.map fun p => Value.ref p.1).toArray.size (fun i v => (items.map fun p => Value.ref p.1).toArray[i]? = some v) (fun i h => h.IsListIter I ax i ∧ h.IsList ax (items.map fun p => Value.ref p.1).toArray) := Walks.list (A := A.in1) (by show A.handled = none; exact hh) I ax hne _
  have hz : (items.map fun p => Value.ref p.1).toArray.size = items.length := by simp
  intro k
  induction k with
  | zero =>
    intro i s hk hi hit hl _ hd hR
    have hin : i = items.length := by omega
    subst hin
    refine codeAny_builtin entry_upd ?_
    rw [Around.under_plainId plain_upd _]
    show wpAny _ A.in1 (pyNext (.ref I) >>= _) _ _ s
    refine wpAny_bind (W.done s _ _ (by rw [hz]; exact ⟨hit, hl⟩) fun h' tk hk' => ?_)
    show wpAny _ A.in1 (Builtin.Dict.addKeywords d [] >>= _) _ _ _
    refine wpAny_bind (wpAny_pure (wpAny_pure (hR h' tk (fun b o _ hb e => hk' b o (by simpa using hb) e) ?_)))
    rw [List.take_length] at hd
    obtain ⟨o, es, ep, ho, r⟩ := hd
    exact ⟨o, es, ep, hk' _ _ (by simpa using hdI) ho, r⟩
  | succ k ih =>
    intro i s hk hi hit hl hkeep hd hR
    have hlt : i < items.length := by omega
    refine codeAny_builtin entry_upd ?_
    rw [Around.under_plainId plain_upd _]
    show wpAny _ A.in1 (pyNext (.ref I) >>= _) _ _ s
    refine wpAny_bind (W.item i s _ _ (by rw [hz]; exact hlt) ⟨hit, hl⟩ fun v h' tk hv hst' hk' => ?_)
    obtain ⟨p, hp⟩ : ∃ p, items[i]? = some p := ⟨items[i], by simp [hlt]⟩
    have hv' : v = .ref p.1 := by
      have : (items.map fun p => Value.ref p.1)[i]? = some v := by simpa using hv
      rw [List.getElem?_map, hp] at this
      simpa using this.symm
    subst hv'
    have hm := ht p (List.mem_of_getElem? hp)
    have ht' : IsTup h' p.1 #[.str p.2.1 p.2.2.1, p.2.2.2] := by
      obtain ⟨o, ho, r⟩ := hm.1
      exact ⟨o, hk' _ _ (by simpa using hm.2.2) (hkeep _ _ hm.2.1 hm.2.2 ho), r⟩
    have hd' : h'.DictOf (strKind prog w) d ((items.take i).map fun p => (p.2.1, p.2.2.2)) := by
      obtain ⟨o, es, ep, ho, r⟩ := hd
      exact ⟨o, es, ep, hk' _ _ (by simpa using hdI) ho, r⟩
    show wpAny _ A.in1 (holding [Value.ref p.1] _ >>= _) _ _ _
    refine wpAny_bind (wpAny_holding (wpAny_bind (wpAny_tryCatch (pair_items (s := { s with heap := h', toks := tk }) ht' ?_))))
    dsimp only
    have hkey : p.2.1 ∉ ((items.take i).map fun p => (p.2.1, p.2.2.2)).map (·.1) := by
      intro q
      have sp : items = items.take i ++ p :: items.drop (i + 1) := by
        have e := List.take_append_drop i items
        rw [List.drop_eq_getElem_cons hlt] at e
        have e2 : items[i] = p := by
          rw [List.getElem?_eq_getElem hlt] at hp; exact Option.some.inj hp
        rw [e2] at e
        exact e.symm
      rw [sp, List.map_append, List.map_cons] at hnd
      have := (List.nodup_append.mp hnd).2.2
      rw [List.map_map] at q
      exact this p.2.1 q p.2.1 (.head _) rfl
    have hsz9 : ((items.take i).map fun p => (p.2.1, p.2.2.2)).length ≤ sizeLine := by
      have z : (1000 : Nat) ≤ sizeLine := by decide
      simp only [List.length_map, List.length_take]
      omega
    refine wpAny_holding (wpAny_dictSet_pairs (knd := strKind prog w) (k := p.2.1) (strKind_is _ _ _ _) hd' (fun h'' hd'' hs'' => ?_) hsz9)
    rw [stored_new hkey] at hd''
    have e1 : (items.take i).map (fun p => (p.2.1, p.2.2.2)) ++ [(p.2.1, p.2.2.2)] = (items.take (i + 1)).map fun p => (p.2.1, p.2.2.2) := by
      rw [List.take_add_one, hp]; simp
    rw [e1] at hd''
    have keep2 : ∀ b o, b ≠ d → b ≠ I → s.heap.get? b = some o → h''.get? b = some o := fun b o h1 h2 e => hs''.extBut b o h1 (hk' b o (by simpa using h2) e)
    refine wpAny_pure ⟨plainId_quiet plain_upd _, ih (i + 1) _ (by omega) hlt ?_ ?_ (fun b o h1 h2 e => keep2 b o h1 h2 (hkeep b o h1 h2 e)) hd'' fun h3 tk3 k3 d3 => ?_⟩
    · obtain ⟨o, ho, r⟩ := hst'.1
      exact ⟨o, hs''.extBut _ _ (Ne.symm hdI) ho, r⟩
    · obtain ⟨o, ho, r⟩ := hst'.2
      exact ⟨o, hs''.extBut _ _ (Ne.symm hda) ho, r⟩
    · exact hR h3 tk3 (fun b o h1 h2 e => k3 b o h1 h2 (keep2 b o h1 h2 e)) d3

theorem dict_of_list {l : Addr} {n0 : Nat} {items : List (Addr × Str × Tok × Value)} {Q : Value → Shared → Prop} (hh : A.handled = none) (hlen : items.length ≤ 1000) (hnd : (items.map (·.2.1)).Nodup)
    (hl : s.heap.get? l = some (W.listOf (items.map fun p => Value.ref p.1).toArray n0)) (ht : ∀ p ∈ items, IsTup s.heap p.1 #[.str p.2.1 p.2.2.1, p.2.2.2])
    (h : ∀ h' tk, (∀ b o, s.heap.get? b = some o → h'.get? b = some o) → h'.DictOf (strKind prog w) s.heap.objs.size (items.map fun p => (p.2.1, p.2.2.2)) → Q (.ref s.heap.objs.size) { s with heap := h', toks := tk }) :
    wpAny (model prog w) A (call (.type "dict") [.ref l]) Q E s := by
  refine callType_codes (Q₁ := fun obj s₁ => obj = .ref s.heap.objs.size ∧ s₁ = { s with heap := s.heap.push { cls := .type "dict", data := .dict #[] } }) PySem.F.kt_called_dict (PySem.F.kt_typeCall_dict_1 _) PySem.F.entry_dict_init (kt_code_dict_new _ ⟨rfl, rfl⟩) ?_
  rintro obj s₁ ⟨rfl, rfl⟩
  have hnew : (s.heap.push { cls := .type "dict", data := .dict #[] }).DictOf (strKind prog w) s.heap.objs.size [] := Heap.DictOf.new s.heap
  have hl' : (s.heap.push { cls := .type "dict", data := .dict #[] }).get? l = some (W.listOf (items.map fun p => Value.ref p.1).toArray n0) := Heap.get?_push_of_some _ hl
  refine ⟨hnew.typeIs, PySem.F.args_dict_init_2 _ _, ?_⟩
  unfold Builtin.«dict.__init__»
  refine wpAny_bind ?_
  unfold Builtin.Dict.selfAndRest
  refine wpAny_bind (wpAny_notOrdered_dict hnew.typeIs ?_)
  show wpAny _ _ (pure (s.heap.objs.size, [Value.ref l])) _ _ _
  refine wpAny_pure ?_
  show wpAny _ _ (Builtin.Dict.updateFrom "dict.__init__" s.heap.objs.size (.ref l) [] .none) _ _ _
  unfold Builtin.Dict.updateFrom
  refine wpAny_bind (wpAny_typeOf (T := "list") ⟨_, hl', rfl⟩ ?_)
  rw [if_pos (by decide)]
  refine wpAny_bind (keys_none (s := { s with heap := s.heap.push { cls := .type "dict", data := .dict #[] } }) hl' hh fun h1 tk1 k1 => ?_)
  have hl1 := k1 _ _ hl'
  rw [if_pos (show (none : Option Value).isNone = true from rfl)]
  have hd1 : h1.DictOf (strKind prog w) s.heap.objs.size [] := by
    obtain ⟨o, es, ep, ho, r⟩ := hnew
    exact ⟨o, es, ep, k1 _ _ ho, r⟩
  have hdl : s.heap.objs.size < h1.objs.size := by
    obtain ⟨o, _, _, ho, _⟩ := hd1
    exact Heap.lt_size ho
  have hll : l < s.heap.objs.size := Heap.lt_size hl
  have old : ∀ b o, s.heap.get? b = some o → h1.get? b = some o := fun b o e => k1 _ _ (Heap.get?_push_of_some _ e)
  refine wpAny_bind (wpAny_rule (wpAny_bind (wpAny_pyIter_list (items := (items.map fun p => Value.ref p.1).toArray) ⟨_, hl1, rfl, _, rfl⟩ ?_)))
  refine wpAny_pure ⟨plainId_quiet plain_upd _, ?_⟩
  have ht0 : ∀ p ∈ items, @LT.lt Nat _ p.1 s.heap.objs.size := fun p hp => by
    obtain ⟨o, ho, _⟩ := ht p hp
    exact Heap.lt_size ho
  refine upd_loop (items := items) (I := h1.objs.size) (d := s.heap.objs.size) (ax := l) (by show A.handled = none; exact hh) (Nat.ne_of_lt (Nat.lt_trans hll hdl)) (Nat.ne_of_lt hdl) (Ne.symm (Nat.ne_of_lt hll)) hlen hnd s.heap
    (fun p hp => ⟨ht p hp, Nat.ne_of_lt (ht0 p hp), Nat.ne_of_lt (Nat.lt_trans (ht0 p hp) hdl)⟩) items.length 0 _ (Nat.sub_zero _) (Nat.zero_le _) ⟨_, Heap.get?_push_size _ rfl, rfl, rfl⟩ ⟨_, Heap.get?_push_of_some _ hl1, rfl, _, rfl⟩ (fun b o _ _ e => Heap.get?_push_of_some _ (old b o e)) ?_ ?_
  · obtain ⟨o, es, ep, ho, r⟩ := hd1
    exact ⟨o, es, ep, Heap.get?_push_of_some _ ho, by simpa using r⟩
  · intro h' tk hk hd
    refine ⟨rfl, h h' tk (fun b o e => hk b o ?_ ?_ (Heap.get?_push_of_some _ (old b o e))) hd⟩
    · exact Nat.ne_of_lt (Heap.lt_size e)
    · exact Nat.ne_of_lt (Nat.lt_trans (Heap.lt_size e) hdl)
end
end Mine
end

section
open PySem PySem.W PyProof.Rows PySem.Spec PySem.Calls PyProof.V
open PyProof.Rows.LCg (NsObj Off3 Off1 lst ns_obj fr_but news_but lst_snoc)
set_option Elab.async false
set_option maxRecDepth 100000
namespace Mine
theorem kwn_TC : True := by
  k_with_none
  trivial
theorem fillTC : RW = RW ∧ KF = KF := by
  k_fill
  exact ⟨rfl, rfl⟩
set_option maxHeartbeats 0
set_option rowWalk.seconds 0
noncomputable abbrev tup3 (x y z : Value) : Obj := { cls := .type "tuple", data := .seq [x, y, z].toArray }
noncomputable abbrev toldElt (p1 p2 p3 p4 p5 : Pos) : PySem.Expr := .Tuple [.Name (Str.ofString "name") p1, .Tuple [.Name (Str.ofString "goal") p2, .Name (Str.ofString "right") p3] 0 p4] 0 p5
theorem told_elt {w : World} {A : Around} {E : Value → Shared → Prop} {s : Shared} {h₀ : Heap} {L : Addr} {m : Str → Option Value} {I C D : Addr} {oI oC : Obj} {ys : List Value} {news : List (Addr × Obj)} {mC : Str → Option Value} {env : Env} {scope : Scope} {cl : List (Str × Addr)} {p1 p2 p3 p4 p5 : Pos} {x y z : Value} {Q : Value → Shared → Prop}
    (hkind : scope.kind = .function) (k1 : scope.names.lookup (Str.ofString "name") = some .local) (k2 : scope.names.lookup (Str.ofString "goal") = some .local) (k3 : scope.names.lookup (Str.ofString "right") = some .local)
    (F : Fr h₀ L s.heap m) (X : (KF w.params).In h₀) (N : News h₀ L s.heap ((I, oI) :: (C, oC) :: (D, lst ys) :: news)) (ho : NsObj oC mC) (e1 : mC (Str.ofString "name") = some x) (e2 : mC (Str.ofString "goal") = some y) (e3 : mC (Str.ofString "right") = some z)
    (q : ∀ T U h' tk', Fr h₀ L h' m → News h₀ L h' ((T, tup2 x (.ref U)) :: (U, tup2 y z) :: (I, oI) :: (C, oC) :: (D, lst ys) :: news) → (∀ p ∈ (I, oI) :: (C, oC) :: (D, lst ys) :: news, @LT.lt Nat _ p.1 U) → @LT.lt Nat _ U T → Q (.ref T) { s with heap := h', toks := tk' }) :
    wpAny (model PW w) A (eval (toldElt p1 p2 p3 p4 p5) (compEnvC scope cl C env)) Q E s := by
  have hn : (compEnvC scope cl C env).scope.kind = .function := by simp [compEnvC, relabel, hkind]
  have ld1 : ∀ {x : Str} {v : Value} {pos : Pos} {s : Shared} {Q : Value → Shared → Prop} {nx : List (Addr × Obj)}, scope.names.lookup x = some .local → mC x = some v → (x == ("__debug__" : Str)) = false → News h₀ L s.heap nx → (C, oC) ∈ nx → Q v s → wpAny (model PW w) A (eval (.Name x pos) (compEnvC scope cl C env)) Q E s :=
    fun k e d N hm q => wpAny_Name (wpAny_loadName_local hn (lookup_relabel_local k) (ho.ns (N _ hm).1) e q) d
  refine Tuple_ (spliced_more (ld1 k1 e1 (by decide) N (.tail _ (.head _)) ?_))
  refine spliced_more (Tuple_ (spliced_more (ld1 k2 e2 (by decide) N (.tail _ (.head _)) (spliced_more (ld1 k3 e3 (by decide) N (.tail _ (.head _)) (spliced_none ?_))))))
  refine newTuple_N F N (fun h1 F1 N1 => ?_) (by show (2 : Nat) ≤ sizeLine; decide)
  refine spliced_none ?_
  refine newTuple_N F1 N1 (fun h2 F2 N2 => ?_) (by show (2 : Nat) ≤ sizeLine; decide)
  exact q _ _ h2 _ F2 N2 (fun p hp => Heap.lt_size (N p hp).1) (Heap.lt_size (N1 _ (.head _)).1)
/- more -/
noncomputable abbrev toldTgt (a1 a2 a3 a4 : Pos) : PySem.Expr := .Tuple [.Name (Str.ofString "name") a1, .Name (Str.ofString "goal") a2, .Name (Str.ofString "right") a3] 0 a4
noncomputable def bodyT (elt tgt iter : PySem.Expr) (scope : Scope) (pos : Pos) (cl : List (Str × Addr)) (env : Env) (I C D : Addr) (v : Value) : Sem Fin :=
  letOwnedTupleGo tgt (.ref I) v >>= fun _ => assign tgt (compEnvC scope cl C env) v >>= fun _ =>
    (eval elt (compEnvC scope cl C env) >>= fun x => call (.builtin "list.append") [.ref D, x] >>= fun _ => pure ()) >>= fun _ =>
      again (.compLoop (.ListComp elt [⟨tgt, iter, [], 0⟩] scope pos) 0 (.ref I) (.ref D) (compEnvC scope cl C env))
theorem bodyT_eq (elt tgt iter : PySem.Expr) (scope : Scope) (pos : Pos) (cl : List (Str × Addr)) (env : Env) (I C D : Addr) :
    compTurn (.ListComp elt [⟨tgt, iter, [], 0⟩] scope pos) 0 (.ref I) (.ref D) (compEnvC scope cl C env) = (standAt iter.pos >>= fun _ => pyNext (.ref I) >>= fun r => match r with
      | none => pure (.done .next)
      | some v => bodyT elt tgt iter scope pos cl env I C D v) := compTurn_list1 _ _ _ _ _ _ _ _
theorem told_turn {w : World} {A : Around} {h₀ : Heap} {L : Addr} {m : Str → Option Value} {s : Shared} {env : Env} {scope : Scope} {cl : List (Str × Addr)} {pos : Pos} {iter : PySem.Expr} {p1 p2 p3 p4 p5 a1 a2 a3 a4 : Pos} {I C D rl b : Addr} {its : Array Value} {n0 k i : Nat} {ys : List Value} {news : List (Addr × Obj)} {x y z : Value} {Fin : List Value → List (Addr × Obj) → Prop}
    (hh : A.handled = none) (hkind : scope.kind = .function) (k1 : scope.names.lookup (Str.ofString "name") = some .local) (k2 : scope.names.lookup (Str.ofString "goal") = some .local) (k3 : scope.names.lookup (Str.ofString "right") = some .local)
    (X : (KF w.params).In h₀) (hID : @LT.lt Nat _ I D) (hDC : @LT.lt Nat _ D C) (hys : ys.length ≤ 100) (hi : its[i]? = some (.ref b)) (hb : (b, tup3 x y z) ∈ news) (hl : (rl, W.listOf its n0) ∈ news)
    (next : ∀ T U, (∀ p ∈ news, @LT.lt Nat _ p.1 U) → @LT.lt Nat _ U T → XRest PW w A h₀ L m s I C D (bodyT (toldElt p1 p2 p3 p4 p5) (toldTgt a1 a2 a3 a4) iter scope pos cl env I C D) (.compLoop (.ListComp (toldElt p1 p2 p3 p4 p5) [⟨toldTgt a1 a2 a3 a4, iter, [], 0⟩] scope pos) 0 (.ref I) (.ref D) (compEnvC scope cl C env)) (fun nw => (rl, W.listOf its n0) ∈ nw) (fun i v => its[i]? = some v) (fun i h => h.IsListIter I rl i ∧ h.IsList rl its) Fin k (i + 1) (ys ++ [.ref T]) ((T, tup2 x (.ref U)) :: (U, tup2 y z) :: news)) :
    XRest PW w A h₀ L m s I C D (bodyT (toldElt p1 p2 p3 p4 p5) (toldTgt a1 a2 a3 a4) iter scope pos cl env I C D) (.compLoop (.ListComp (toldElt p1 p2 p3 p4 p5) [⟨toldTgt a1 a2 a3 a4, iter, [], 0⟩] scope pos) 0 (.ref I) (.ref D) (compEnvC scope cl C env)) (fun nw => (rl, W.listOf its n0) ∈ nw) (fun i v => its[i]? = some v) (fun i h => h.IsListIter I rl i ∧ h.IsList rl its) Fin (k + 1) i ys news := by
  intro v oI oC m₂ h tk E' hP ho F N off hS hst
  have hv : v = .ref b := by
    have := hP.symm.trans hi
    exact Option.some.inj this
  subst hv
  have hIC : I ≠ C := Nat.ne_of_lt (Nat.lt_trans hID hDC)
  have hn : (compEnvC scope cl C env).scope.kind = .function := by simp [compEnvC, relabel, hkind]
  unfold bodyT
  refine wpAny_bind (wpAny_letOwnedTupleGo_listiter hst.1 ?_)
  have x0 : XAt h₀ L m I oI C D ys news m₂ h := ⟨oC, F, ho, N⟩
  have htup : IsTup h b #[x, y, z] := ⟨_, (N _ (.tail _ (.tail _ (.tail _ hb)))).1, rfl, _, rfl⟩
  refine wpAny_bind (put3 (env := compEnvC scope cl C env) hh (lookup_relabel_local k1) (lookup_relabel_local k2) (lookup_relabel_local k3) hn x0.ns htup fun h2 tk2 n2 kp2 => ?_)
  obtain ⟨oC2, F2, ho2, N2⟩ := x0.store n2 kp2 hIC (Nat.ne_of_lt hDC) off
  refine wpAny_bind (wpAny_bind (told_elt hkind k1 k2 k3 F2 X N2 ho2 rfl rfl rfl fun T U h3 tk3 F3 N3 l3 lt3 => ?_))
  have lI : @LT.lt Nat _ I U := l3 _ (.head _)
  have lC : @LT.lt Nat _ C U := l3 _ (.tail _ (.head _))
  have lD : @LT.lt Nat _ D U := l3 _ (.tail _ (.tail _ (.head _)))
  have off3 : Off3 I C D ((T, tup2 x (.ref U)) :: (U, tup2 y z) :: news) :=
    ⟨⟨Ne.symm (Nat.ne_of_lt (Nat.lt_trans lI lt3)), Ne.symm (Nat.ne_of_lt (Nat.lt_trans lC lt3)), Ne.symm (Nat.ne_of_lt (Nat.lt_trans lD lt3))⟩, ⟨Ne.symm (Nat.ne_of_lt lI), Ne.symm (Nat.ne_of_lt lC), Ne.symm (Nat.ne_of_lt lD)⟩, off⟩
  have x3 : XAt h₀ L m I oI C D ys ((T, tup2 x (.ref U)) :: (U, tup2 y z) :: news) _ h3 := ⟨oC2, F3, ho2, cb_drop N3 (by
    intro p hp
    simp only [List.mem_cons] at hp ⊢
    rcases hp with h | h | h | h | h | h <;> simp [h])⟩
  refine wpAny_bind (push_item (by have z : (100 : Nat) ≤ sizeLine := by decide
                                   exact Nat.le_trans hys z) x3 off3 (Nat.ne_of_lt hID) (Ne.symm (Nat.ne_of_lt hDC)) fun v4 h4 x4 => ?_)
  obtain ⟨oC4, F4, ho4, N4⟩ := x4
  exact wpAny_pure (wpAny_pure ⟨rfl, _, _, oC4, _, _, _, rfl, F4, ho4, N4, off3, .tail _ (.tail _ hS), next T U (fun p hp => l3 p (.tail _ (.tail _ (.tail _ hp)))) lt3⟩)
end Mine
end

section
open PySem PySem.W PyProof.Rows PySem.Spec PySem.Calls PyProof.V
open PyProof.Rows.LCg (NsObj Off3 Off1 lst ns_obj fr_but news_but lst_snoc)
set_option Elab.async false
set_option maxRecDepth 100000
set_option maxHeartbeats 0
namespace Mine
theorem kwn_TD : True := by
  k_with_none
  trivial
theorem told_comp {w : World} {A : Around} {E : Value → Shared → Prop} {s : Shared} {h₀ : Heap} {L : Addr} {m : Str → Option Value} {env : Env} {scope : Scope} {cl : List (Str × Addr)} {pos pp : Pos} {p1 p2 p3 p4 p5 a1 a2 a3 a4 : Pos} {news : List (Addr × Obj)} {rn : Nat} {rl : Addr} {b0 b1 b2 b3 b4 b5 b6 b7 b8 : Addr} {r0 r1 r2 r3 r4 r5 r6 r7 r8 : Tok} {gt0 gt1 gt2 gt3 gt4 gt5 gt6 gt7 gt8 rt0 rt1 rt2 rt3 rt4 rt5 rt6 rt7 rt8 : Tok} {g0 g1 g2 g3 g4 g5 g6 g7 g8 d0 d1 d2 d3 d4 d5 d6 d7 d8 : Int} {Q : Value → Shared → Prop}
    (hh : A.handled = none) (hclos : closureFor scope env = pure cl) (hcell : ∀ y ∈ scope.names, y.2 ≠ .cell) (hkind : scope.kind = .function) (hnames : ∀ y ∈ scope.names, y.2 = .local → scope.names.lookup y.1 = some .local)
    (k1 : scope.names.lookup (Str.ofString "name") = some .local) (k2 : scope.names.lookup (Str.ofString "goal") = some .local) (k3 : scope.names.lookup (Str.ofString "right") = some .local)
    (F : Fr h₀ L s.heap m) (X : (KF w.params).In h₀) (N : News h₀ L s.heap news) (hl : (rl, W.listOf #[.ref b0, .ref b1, .ref b2, .ref b3, .ref b4, .ref b5, .ref b6, .ref b7, .ref b8] rn) ∈ news) (hb0 : (b0, tup3 (.str (Str.ofString "pf") r0) (.int g0 gt0) (.int d0 rt0)) ∈ news) (hb1 : (b1, tup3 (.str (Str.ofString "pi") r1) (.int g1 gt1) (.int d1 rt1)) ∈ news) (hb2 : (b2, tup3 (.str (Str.ofString "qf") r2) (.int g2 gt2) (.int d2 rt2)) ∈ news) (hb3 : (b3, tup3 (.str (Str.ofString "qi") r3) (.int g3 gt3) (.int d3 rt3)) ∈ news) (hb4 : (b4, tup3 (.str (Str.ofString "rf") r4) (.int g4 gt4) (.int d4 rt4)) ∈ news) (hb5 : (b5, tup3 (.str (Str.ofString "ri") r5) (.int g5 gt5) (.int d5 rt5)) ∈ news) (hb6 : (b6, tup3 (.str (Str.ofString "p.") r6) (.int g6 gt6) (.int d6 rt6)) ∈ news) (hb7 : (b7, tup3 (.str (Str.ofString "q.") r7) (.int g7 gt7) (.int d7 rt7)) ∈ news) (hb8 : (b8, tup3 (.str (Str.ofString "r.") r8) (.int g8 gt8) (.int d8 rt8)) ∈ news)
    (hev : wpAny (model PW w) A (eval (.Name (Str.ofString "rules") pp) env) (fun v s' => v = .ref rl ∧ s' = s) E s)
    (hret : ∀ D T0 T1 T2 T3 T4 T5 T6 T7 T8 U0 U1 U2 U3 U4 U5 U6 U7 U8 h' tk', Fr h₀ L h' m → News h₀ L h' ((D, W.listOf #[.ref T0, .ref T1, .ref T2, .ref T3, .ref T4, .ref T5, .ref T6, .ref T7, .ref T8] 9) :: (T8, tup2 (.str (Str.ofString "r.") r8) (.ref U8)) :: (U8, tup2 (.int g8 gt8) (.int d8 rt8)) :: (T7, tup2 (.str (Str.ofString "q.") r7) (.ref U7)) :: (U7, tup2 (.int g7 gt7) (.int d7 rt7)) :: (T6, tup2 (.str (Str.ofString "p.") r6) (.ref U6)) :: (U6, tup2 (.int g6 gt6) (.int d6 rt6)) :: (T5, tup2 (.str (Str.ofString "ri") r5) (.ref U5)) :: (U5, tup2 (.int g5 gt5) (.int d5 rt5)) :: (T4, tup2 (.str (Str.ofString "rf") r4) (.ref U4)) :: (U4, tup2 (.int g4 gt4) (.int d4 rt4)) :: (T3, tup2 (.str (Str.ofString "qi") r3) (.ref U3)) :: (U3, tup2 (.int g3 gt3) (.int d3 rt3)) :: (T2, tup2 (.str (Str.ofString "qf") r2) (.ref U2)) :: (U2, tup2 (.int g2 gt2) (.int d2 rt2)) :: (T1, tup2 (.str (Str.ofString "pi") r1) (.ref U1)) :: (U1, tup2 (.int g1 gt1) (.int d1 rt1)) :: (T0, tup2 (.str (Str.ofString "pf") r0) (.ref U0)) :: (U0, tup2 (.int g0 gt0) (.int d0 rt0)) :: news) → (∀ p ∈ news, @LT.lt Nat _ p.1 U0) → @LT.lt Nat _ U0 U1 → @LT.lt Nat _ U1 U2 → @LT.lt Nat _ U2 U3 → @LT.lt Nat _ U3 U4 → @LT.lt Nat _ U4 U5 → @LT.lt Nat _ U5 U6 → @LT.lt Nat _ U6 U7 → @LT.lt Nat _ U7 U8 → Q (.ref D) { s with heap := h', toks := tk' }) :
    wpAny (model PW w) A (eval (.ListComp (toldElt p1 p2 p3 p4 p5) [⟨toldTgt a1 a2 a3 a4, .Name (Str.ofString "rules") pp, [], 0⟩] scope pos) env) Q E s := by
  refine comp_list (ax := rl) (its := #[.ref b0, .ref b1, .ref b2, .ref b3, .ref b4, .ref b5, .ref b6, .ref b7, .ref b8]) (n0 := rn) (S := fun nw => (rl, W.listOf #[.ref b0, .ref b1, .ref b2, .ref b3, .ref b4, .ref b5, .ref b6, .ref b7, .ref b8] rn) ∈ nw) (body := bodyT (toldElt p1 p2 p3 p4 p5) (toldTgt a1 a2 a3 a4) (.Name (Str.ofString "rules") pp) scope pos cl env)
    (Fin := fun D ys nw => ∃ T0 U0 T1 U1 T2 U2 T3 U3 T4 U4 T5 U5 T6 U6 T7 U7 T8 U8 : Addr, ys = [.ref T0, .ref T1, .ref T2, .ref T3, .ref T4, .ref T5, .ref T6, .ref T7, .ref T8] ∧ nw = (T8, tup2 (.str (Str.ofString "r.") r8) (.ref U8)) :: (U8, tup2 (.int g8 gt8) (.int d8 rt8)) :: (T7, tup2 (.str (Str.ofString "q.") r7) (.ref U7)) :: (U7, tup2 (.int g7 gt7) (.int d7 rt7)) :: (T6, tup2 (.str (Str.ofString "p.") r6) (.ref U6)) :: (U6, tup2 (.int g6 gt6) (.int d6 rt6)) :: (T5, tup2 (.str (Str.ofString "ri") r5) (.ref U5)) :: (U5, tup2 (.int g5 gt5) (.int d5 rt5)) :: (T4, tup2 (.str (Str.ofString "rf") r4) (.ref U4)) :: (U4, tup2 (.int g4 gt4) (.int d4 rt4)) :: (T3, tup2 (.str (Str.ofString "qi") r3) (.ref U3)) :: (U3, tup2 (.int g3 gt3) (.int d3 rt3)) :: (T2, tup2 (.str (Str.ofString "qf") r2) (.ref U2)) :: (U2, tup2 (.int g2 gt2) (.int d2 rt2)) :: (T1, tup2 (.str (Str.ofString "pi") r1) (.ref U1)) :: (U1, tup2 (.int g1 gt1) (.int d1 rt1)) :: (T0, tup2 (.str (Str.ofString "pf") r0) (.ref U0)) :: (U0, tup2 (.int g0 gt0) (.int d0 rt0)) :: news ∧ (∀ p ∈ news, @LT.lt Nat _ p.1 U0) ∧ @LT.lt Nat _ U0 U1 ∧ @LT.lt Nat _ U1 U2 ∧ @LT.lt Nat _ U2 U3 ∧ @LT.lt Nat _ U3 U4 ∧ @LT.lt Nat _ U4 U5 ∧ @LT.lt Nat _ U5 U6 ∧ @LT.lt Nat _ U6 U7 ∧ @LT.lt Nat _ U7 U8)
    (bodyT_eq _ _ _ scope pos cl env) hh hclos hcell hkind hnames F N hl hl (fun _ h => h) (fun I C D s' _ hID hDC _ _ _ => ?_) (fun D h tk ys nw F' N' _ _ hf => ?_) (fun _ => rfl) hev
  · exact told_turn (k := 8) hh hkind k1 k2 k3 X hID hDC (by show (0 : Nat) ≤ 100; decide) rfl hb0 hl (fun T0 U0 l0 _ => told_turn (k := 7) hh hkind k1 k2 k3 X hID hDC (by show (1 : Nat) ≤ 100; decide) rfl (.tail _ (.tail _ hb1)) (.tail _ (.tail _ hl)) (fun T1 U1 l1 _ => told_turn (k := 6) hh hkind k1 k2 k3 X hID hDC (by show (2 : Nat) ≤ 100; decide) rfl (.tail _ (.tail _ (.tail _ (.tail _ hb2)))) (.tail _ (.tail _ (.tail _ (.tail _ hl)))) (fun T2 U2 l2 _ => told_turn (k := 5) hh hkind k1 k2 k3 X hID hDC (by show (3 : Nat) ≤ 100; decide) rfl (.tail _ (.tail _ (.tail _ (.tail _ (.tail _ (.tail _ hb3)))))) (.tail _ (.tail _ (.tail _ (.tail _ (.tail _ (.tail _ hl)))))) (fun T3 U3 l3 _ => told_turn (k := 4) hh hkind k1 k2 k3 X hID hDC (by show (4 : Nat) ≤ 100; decide) rfl (.tail _ (.tail _ (.tail _ (.tail _ (.tail _ (.tail _ (.tail _ (.tail _ hb4)))))))) (.tail _ (.tail _ (.tail _ (.tail _ (.tail _ (.tail _ (.tail _ (.tail _ hl)))))))) (fun T4 U4 l4 _ => told_turn (k := 3) hh hkind k1 k2 k3 X hID hDC (by show (5 : Nat) ≤ 100; decide) rfl (.tail _ (.tail _ (.tail _ (.tail _ (.tail _ (.tail _ (.tail _ (.tail _ (.tail _ (.tail _ hb5)))))))))) (.tail _ (.tail _ (.tail _ (.tail _ (.tail _ (.tail _ (.tail _ (.tail _ (.tail _ (.tail _ hl)))))))))) (fun T5 U5 l5 _ => told_turn (k := 2) hh hkind k1 k2 k3 X hID hDC (by show (6 : Nat) ≤ 100; decide) rfl (.tail _ (.tail _ (.tail _ (.tail _ (.tail _ (.tail _ (.tail _ (.tail _ (.tail _ (.tail _ (.tail _ (.tail _ hb6)))))))))))) (.tail _ (.tail _ (.tail _ (.tail _ (.tail _ (.tail _ (.tail _ (.tail _ (.tail _ (.tail _ (.tail _ (.tail _ hl)))))))))))) (fun T6 U6 l6 _ => told_turn (k := 1) hh hkind k1 k2 k3 X hID hDC (by show (7 : Nat) ≤ 100; decide) rfl (.tail _ (.tail _ (.tail _ (.tail _ (.tail _ (.tail _ (.tail _ (.tail _ (.tail _ (.tail _ (.tail _ (.tail _ (.tail _ (.tail _ hb7)))))))))))))) (.tail _ (.tail _ (.tail _ (.tail _ (.tail _ (.tail _ (.tail _ (.tail _ (.tail _ (.tail _ (.tail _ (.tail _ (.tail _ (.tail _ hl)))))))))))))) (fun T7 U7 l7 _ => told_turn (k := 0) hh hkind k1 k2 k3 X hID hDC (by show (8 : Nat) ≤ 100; decide) rfl (.tail _ (.tail _ (.tail _ (.tail _ (.tail _ (.tail _ (.tail _ (.tail _ (.tail _ (.tail _ (.tail _ (.tail _ (.tail _ (.tail _ (.tail _ (.tail _ hb8)))))))))))))))) (.tail _ (.tail _ (.tail _ (.tail _ (.tail _ (.tail _ (.tail _ (.tail _ (.tail _ (.tail _ (.tail _ (.tail _ (.tail _ (.tail _ (.tail _ (.tail _ hl)))))))))))))))) (fun T8 U8 l8 _ => ⟨T0, U0, T1, U1, T2, U2, T3, U3, T4, U4, T5, U5, T6, U6, T7, U7, T8, U8, rfl, rfl, l0, l1 _ (.tail _ (.head _)), l2 _ (.tail _ (.head _)), l3 _ (.tail _ (.head _)), l4 _ (.tail _ (.head _)), l5 _ (.tail _ (.head _)), l6 _ (.tail _ (.head _)), l7 _ (.tail _ (.head _)), l8 _ (.tail _ (.head _))⟩)))))))))
  · obtain ⟨T0, U0, T1, U1, T2, U2, T3, U3, T4, U4, T5, U5, T6, U6, T7, U7, T8, U8, rfl, rfl, z0, z1, z2, z3, z4, z5, z6, z7, z8⟩ := hf
    exact hret D T0 T1 T2 T3 T4 T5 T6 T7 T8 U0 U1 U2 U3 U4 U5 U6 U7 U8 h tk F' N' z0 z1 z2 z3 z4 z5 z6 z7 z8
theorem told_dict {w : World} {A : Around} {E : Value → Shared → Prop} {s : Shared} {h₀ : Heap} {L D : Addr} {m : Str → Option Value} {news : List (Addr × Obj)} {T0 T1 T2 T3 T4 T5 T6 T7 T8 U0 U1 U2 U3 U4 U5 U6 U7 U8 : Addr} {r0 r1 r2 r3 r4 r5 r6 r7 r8 gt0 gt1 gt2 gt3 gt4 gt5 gt6 gt7 gt8 rt0 rt1 rt2 rt3 rt4 rt5 rt6 rt7 rt8 : Tok} {g0 g1 g2 g3 g4 g5 g6 g7 g8 d0 d1 d2 d3 d4 d5 d6 d7 d8 : Int} {Q : Value → Shared → Prop}
    (hh : A.handled = none) (F : Fr h₀ L s.heap m) (N : News h₀ L s.heap ((D, W.listOf #[.ref T0, .ref T1, .ref T2, .ref T3, .ref T4, .ref T5, .ref T6, .ref T7, .ref T8] 9) :: (T8, tup2 (.str (Str.ofString "r.") r8) (.ref U8)) :: (U8, tup2 (.int g8 gt8) (.int d8 rt8)) :: (T7, tup2 (.str (Str.ofString "q.") r7) (.ref U7)) :: (U7, tup2 (.int g7 gt7) (.int d7 rt7)) :: (T6, tup2 (.str (Str.ofString "p.") r6) (.ref U6)) :: (U6, tup2 (.int g6 gt6) (.int d6 rt6)) :: (T5, tup2 (.str (Str.ofString "ri") r5) (.ref U5)) :: (U5, tup2 (.int g5 gt5) (.int d5 rt5)) :: (T4, tup2 (.str (Str.ofString "rf") r4) (.ref U4)) :: (U4, tup2 (.int g4 gt4) (.int d4 rt4)) :: (T3, tup2 (.str (Str.ofString "qi") r3) (.ref U3)) :: (U3, tup2 (.int g3 gt3) (.int d3 rt3)) :: (T2, tup2 (.str (Str.ofString "qf") r2) (.ref U2)) :: (U2, tup2 (.int g2 gt2) (.int d2 rt2)) :: (T1, tup2 (.str (Str.ofString "pi") r1) (.ref U1)) :: (U1, tup2 (.int g1 gt1) (.int d1 rt1)) :: (T0, tup2 (.str (Str.ofString "pf") r0) (.ref U0)) :: (U0, tup2 (.int g0 gt0) (.int d0 rt0)) :: news))
    (q : ∀ td od h' tk', od.IsDictOf (strKind PW w) [(Str.ofString "pf", Value.ref U0), (Str.ofString "pi", Value.ref U1), (Str.ofString "qf", Value.ref U2), (Str.ofString "qi", Value.ref U3), (Str.ofString "rf", Value.ref U4), (Str.ofString "ri", Value.ref U5), (Str.ofString "p.", Value.ref U6), (Str.ofString "q.", Value.ref U7), (Str.ofString "r.", Value.ref U8)] → Fr h₀ L h' m → News h₀ L h' ((td, od) :: (U0, tup2 (.int g0 gt0) (.int d0 rt0)) :: (U1, tup2 (.int g1 gt1) (.int d1 rt1)) :: (U2, tup2 (.int g2 gt2) (.int d2 rt2)) :: (U3, tup2 (.int g3 gt3) (.int d3 rt3)) :: (U4, tup2 (.int g4 gt4) (.int d4 rt4)) :: (U5, tup2 (.int g5 gt5) (.int d5 rt5)) :: (U6, tup2 (.int g6 gt6) (.int d6 rt6)) :: (U7, tup2 (.int g7 gt7) (.int d7 rt7)) :: (U8, tup2 (.int g8 gt8) (.int d8 rt8)) :: news) → (∀ p ∈ (U0, tup2 (.int g0 gt0) (.int d0 rt0)) :: (U1, tup2 (.int g1 gt1) (.int d1 rt1)) :: (U2, tup2 (.int g2 gt2) (.int d2 rt2)) :: (U3, tup2 (.int g3 gt3) (.int d3 rt3)) :: (U4, tup2 (.int g4 gt4) (.int d4 rt4)) :: (U5, tup2 (.int g5 gt5) (.int d5 rt5)) :: (U6, tup2 (.int g6 gt6) (.int d6 rt6)) :: (U7, tup2 (.int g7 gt7) (.int d7 rt7)) :: (U8, tup2 (.int g8 gt8) (.int d8 rt8)) :: news, @LT.lt Nat _ p.1 td) → Q (.ref td) { s with heap := h', toks := tk' }) :
    wpAny (model PW w) A (call (.type "dict") [.ref D]) Q E s := by
  refine dict_of_list (items := [(T0, Str.ofString "pf", r0, Value.ref U0), (T1, Str.ofString "pi", r1, Value.ref U1), (T2, Str.ofString "qf", r2, Value.ref U2), (T3, Str.ofString "qi", r3, Value.ref U3), (T4, Str.ofString "rf", r4, Value.ref U4), (T5, Str.ofString "ri", r5, Value.ref U5), (T6, Str.ofString "p.", r6, Value.ref U6), (T7, Str.ofString "q.", r7, Value.ref U7), (T8, Str.ofString "r.", r8, Value.ref U8)]) (n0 := 9) hh (by show (9 : Nat) ≤ 1000; decide) (by show ([Str.ofString "pf", Str.ofString "pi", Str.ofString "qf", Str.ofString "qi", Str.ofString "rf", Str.ofString "ri", Str.ofString "p.", Str.ofString "q.", Str.ofString "r."] : List Str).Nodup; decide +kernel) (N _ (.head _)).1 (fun p hp => ?_) (fun h' tk k hd => ?_)
  · revert p
    exact List.forall_mem_cons.mpr ⟨tup_at N (by k_mem), List.forall_mem_cons.mpr ⟨tup_at N (by k_mem), List.forall_mem_cons.mpr ⟨tup_at N (by k_mem), List.forall_mem_cons.mpr ⟨tup_at N (by k_mem), List.forall_mem_cons.mpr ⟨tup_at N (by k_mem), List.forall_mem_cons.mpr ⟨tup_at N (by k_mem), List.forall_mem_cons.mpr ⟨tup_at N (by k_mem), List.forall_mem_cons.mpr ⟨tup_at N (by k_mem), List.forall_mem_cons.mpr ⟨tup_at N (by k_mem), fun _ h => nomatch h⟩⟩⟩⟩⟩⟩⟩⟩⟩
  · have sub : ∀ p ∈ (U0, tup2 (.int g0 gt0) (.int d0 rt0)) :: (U1, tup2 (.int g1 gt1) (.int d1 rt1)) :: (U2, tup2 (.int g2 gt2) (.int d2 rt2)) :: (U3, tup2 (.int g3 gt3) (.int d3 rt3)) :: (U4, tup2 (.int g4 gt4) (.int d4 rt4)) :: (U5, tup2 (.int g5 gt5) (.int d5 rt5)) :: (U6, tup2 (.int g6 gt6) (.int d6 rt6)) :: (U7, tup2 (.int g7 gt7) (.int d7 rt7)) :: (U8, tup2 (.int g8 gt8) (.int d8 rt8)) :: news, p ∈ (D, W.listOf #[.ref T0, .ref T1, .ref T2, .ref T3, .ref T4, .ref T5, .ref T6, .ref T7, .ref T8] 9) :: (T8, tup2 (.str (Str.ofString "r.") r8) (.ref U8)) :: (U8, tup2 (.int g8 gt8) (.int d8 rt8)) :: (T7, tup2 (.str (Str.ofString "q.") r7) (.ref U7)) :: (U7, tup2 (.int g7 gt7) (.int d7 rt7)) :: (T6, tup2 (.str (Str.ofString "p.") r6) (.ref U6)) :: (U6, tup2 (.int g6 gt6) (.int d6 rt6)) :: (T5, tup2 (.str (Str.ofString "ri") r5) (.ref U5)) :: (U5, tup2 (.int g5 gt5) (.int d5 rt5)) :: (T4, tup2 (.str (Str.ofString "rf") r4) (.ref U4)) :: (U4, tup2 (.int g4 gt4) (.int d4 rt4)) :: (T3, tup2 (.str (Str.ofString "qi") r3) (.ref U3)) :: (U3, tup2 (.int g3 gt3) (.int d3 rt3)) :: (T2, tup2 (.str (Str.ofString "qf") r2) (.ref U2)) :: (U2, tup2 (.int g2 gt2) (.int d2 rt2)) :: (T1, tup2 (.str (Str.ofString "pi") r1) (.ref U1)) :: (U1, tup2 (.int g1 gt1) (.int d1 rt1)) :: (T0, tup2 (.str (Str.ofString "pf") r0) (.ref U0)) :: (U0, tup2 (.int g0 gt0) (.int d0 rt0)) :: news := by
      exact List.forall_mem_cons.mpr ⟨by k_mem, List.forall_mem_cons.mpr ⟨by k_mem, List.forall_mem_cons.mpr ⟨by k_mem, List.forall_mem_cons.mpr ⟨by k_mem, List.forall_mem_cons.mpr ⟨by k_mem, List.forall_mem_cons.mpr ⟨by k_mem, List.forall_mem_cons.mpr ⟨by k_mem, List.forall_mem_cons.mpr ⟨by k_mem, List.forall_mem_cons.mpr ⟨by k_mem, fun p hp => by repeat (first | exact hp | apply List.Mem.tail)⟩⟩⟩⟩⟩⟩⟩⟩⟩
    obtain ⟨od, ho, hod⟩ := Heap.dictOf_iff.mp hd
    have fresh : h₀.get? s.heap.objs.size = none := next_new F (Nat.le_refl _)
    refine q _ od h' tk hod (F.keeps k) (fun p hp => ?_) (fun p hp => Heap.lt_size (N p (sub p hp)).1)
    rcases List.mem_cons.mp hp with rfl | hp
    · exact ⟨ho, Ne.symm (Nat.ne_of_lt F.ns.lt), fresh⟩
    · exact ⟨k _ _ (N p (sub p hp)).1, (N p (sub p hp)).2⟩
end Mine
end

section
open PySem PySem.W PyProof.Rows PySem.Spec PySem.Calls PyProof.V
set_option Elab.async false
set_option maxRecDepth 100000
namespace Mine
theorem kwn_NL : True := by
  k_with_none
  trivial
section
variable {prog : Program} {w : World} {A : Around} {E : Value → Shared → Prop} {s : Shared} {h₀ : Heap} {env : Env} {body : List Stmt} {Q : Flow → Shared → Prop}
theorem tape_ascii (sg : List (Fin 3)) : (tapeS sg).cps.all (· < 128) = true := by
  unfold tapeS
  simp only [List.all_toArray, List.all_map]
  refine List.all_eq_true.mpr fun c _ => ?_
  rcases fin3 c with rfl | rfl | rfl <;> decide
/-- a loop over the tape's signs, whatever its turns leave on the ledger -/
theorem iter_strT {sg : List (Fin 3)} {x : Str} {px : Pos} {t : Tok} {m₀ : Str → Option Value} {news : List (Addr × Obj)} (hh : A.handled = none) (F : Fr h₀ env.locals s.heap m₀) (N : News h₀ env.locals s.heap news)
    (rest : ∀ I : Addr, (∀ p ∈ news, p.1 < I) → ItemsRest prog w A E h₀ env (.Name x px) body Q s [(I, "str_ascii_iterator")] [] (sg.map fun c => Itm.tok fun u => .str ⟨#[sC c]⟩ u) m₀ news) :
    wpAny (model prog w) A (pyIter (.str (tapeS sg) t)) (fun it s₂ => TurnsAt prog w A h₀ env (.Name x px) body Q E it s₂) E s := by
  refine wpAny_pyIter_ascii (tape_ascii sg) ?_
  refine ktu_core (tk0 := s.toks) (keep := []) (ws := [(s.heap.objs.size, "str_ascii_iterator")]) (KTurns.ofWalks (Walks.strAscii hh s.heap.objs.size (tapeS sg) t) fun i v s Q E st q => wpAny_of_eq rfl q) (by simp [tapeS]) (fun i v h hp => ?_) (fun i h st => ?_) (fun b hb => ?_) (fun b hb => by simpa using hb) (fun b hb => .inl (by simpa using hb)) ?_ (fun p hp hI => ?_) ?_ (F.push _) (fun p hp => ⟨Heap.get?_push_of_some _ (N p hp).1, (N p hp).2⟩) trivial (rest _ fun p hp => Heap.lt_size (N p hp).1)
  · obtain ⟨c, u, hc, rfl⟩ := hp
    have hc' : (sg.map sC)[i]? = some c := by simpa [tapeS] using hc
    rw [List.getElem?_map] at hc'
    obtain ⟨d, hd, e⟩ : ∃ d, sg[i]? = some d ∧ sC d = c := by
      cases q : sg[i]? with
      | none => rw [q] at hc'; cases hc'
      | some d => rw [q] at hc'; exact ⟨d, rfl, Option.some.inj hc'⟩
    refine ⟨.tok fun u => .str ⟨#[sC d]⟩ u, by simp [hd], u, by rw [e]⟩
  · obtain ⟨o, ho, hc, _⟩ := st
    exact ⟨[(s.heap.objs.size, o)], ⟨⟨rfl, hc⟩, trivial⟩, fun p hp => by rw [List.mem_singleton.mp hp]; exact ho⟩
  · have hb' : b = s.heap.objs.size := by simpa using hb
    rw [hb']
    exact ⟨List.mem_cons_self .., next_is_new F⟩
  · intro hI
    exact absurd F.ns.lt ((List.mem_singleton.mp hI) ▸ Nat.lt_irrefl _)
  · exact absurd (Heap.lt_size (N p hp).1) ((List.mem_singleton.mp hI) ▸ Nat.lt_irrefl _)
  · exact ⟨_, Heap.get?_push_size _ rfl, rfl, rfl⟩
end
end Mine
end

section
open PySem PySem.W PyProof.Rows PySem.Spec PySem.Calls PyProof.V
set_option Elab.async false
set_option maxRecDepth 100000
namespace Mine
theorem kwn_NJ : True := by
  k_with_none
  trivial
section
variable {prog : Program} {w : World} {A : Around} {E : Value → Shared → Prop} {s : Shared} {h₀ : Heap} {env : Env} {body : List Stmt} {Q : Flow → Shared → Prop}
/-- a loop over the tape's signs by an invariant that counts -/
theorem iter_strJ (J : Addr → Nat → (Str → Option Value) → List (Addr × Obj) → Prop) {sg : List (Fin 3)} {x : Str} {px : Pos} {t : Tok} {m₀ : Str → Option Value} {news : List (Addr × Obj)} (hh : A.handled = none) (F : Fr h₀ env.locals s.heap m₀) (N : News h₀ env.locals s.heap news) (j0 : ∀ I : Addr, (∀ p ∈ news, p.1 < I) → J I 0 m₀ news)
    (turn : ∀ (I : Addr) (i : Nat) (c : Fin 3) u h tk o m nx, (∀ p ∈ news, p.1 < I) → sg[i]? = some c → o.cls = .type "str_ascii_iterator" → J I i m nx → Fr h₀ env.locals h m → News h₀ env.locals h ((I, o) :: nx) →
      wpAny (model prog w) A (assign (.Name x px) env (.str ⟨#[sC c]⟩ u)) (fun _ s₂ => wpAny (model prog w) A (execs body env) (UnrPostW h₀ env.locals { s with heap := h, toks := tk } [(I, o)] (fun m' n' => J I (i + 1) m' n') Q) E s₂) E { s with heap := h, toks := tk })
    (done : ∀ I m nx h tk, J I sg.length m nx → Fr h₀ env.locals h m → News h₀ env.locals h nx → Q .next { s with heap := h, toks := tk }) :
    wpAny (model prog w) A (pyIter (.str (tapeS sg) t)) (fun it s₂ => TurnsAt prog w A h₀ env (.Name x px) body Q E it s₂) E s := by
  refine iter_strT hh F N fun I hI => ?_
  have key : ∀ k i m nx, i + k = sg.length → J I i m nx → ItemsRest prog w A E h₀ env (.Name x px) body Q s [(I, "str_ascii_iterator")] [] ((sg.drop i).map fun c => Itm.tok fun u => .str ⟨#[sC c]⟩ u) m nx := by
    intro k
    induction k with
    | zero =>
      intro i m nx e j
      have e' : i = sg.length := by omega
      subst e'
      rw [List.drop_length]
      exact ItemsRest.zero fun h tk F' N' => done I m nx h tk j F' N'
    | succ k ih =>
      intro i m nx e j
      have hi : i < sg.length := by omega
      rw [List.drop_eq_getElem_cons hi, List.map_cons]
      refine ItemsRest.tok fun u h tk F' => AllObj.cons fun o ho => AllObj.nil fun N' => ?_
      refine wpAny_mono (turn I i sg[i] u h tk o m nx hI (List.getElem?_eq_getElem hi) ho j F' N') (fun _ s₂ h₂ => wpAny_mono h₂ (fun f s₃ h₃ => ?_) fun _ _ e => e) fun _ _ e => e
      have fin : ∀ {s₁ its s₄}, UnrEndW h₀ env.locals s₁ its (fun m' n' => J I (i + 1) m' n') s₄ → UnrEndW h₀ env.locals s₁ its (fun m' n' => SubL [] n' ∧ ItemsRest prog w A E h₀ env (.Name x px) body Q s [(I, "str_ascii_iterator")] [] ((sg.drop (i + 1)).map fun c => Itm.tok fun u => .str ⟨#[sC c]⟩ u) m' n') s₄ := by
        rintro s₁ its s₄ ⟨h', tk', m', n', es, F₁, N₁, off, j'⟩
        exact ⟨h', tk', m', n', es, F₁, N₁, off, trivial, ih (i + 1) m' n' (by omega) j'⟩
      cases f with
      | next => exact fin h₃
      | cont => exact fin h₃
      | brk => exact h₃
      | ret v => exact h₃
  have := key sg.length 0 m₀ news (by omega) (j0 I hI)
  rwa [List.drop_zero] at this
end
end Mine
end

section
open PySem PySem.W PyProof.Rows PySem.Spec PySem.Calls
set_option Elab.async false
set_option maxRecDepth 100000
namespace Mine
theorem kwn_DW : True := by
  k_with_none
  trivial
noncomputable def digs (a : Int) : List Int := if a = 0 then [] else if a < 4 then [a] else if a < 16 then [a % 4, a / 4] else if a < 64 then [a % 4, a / 4 % 4, a / 4 / 4] else [a % 16 % 4, a % 16 / 4, a / 16 % 4, a / 16 / 4]
theorem digs_take256 : ∀ n : Fin 256, (digs (n.val : Int) ++ [0, 0, 0, 0]).take 4 = [(n.val : Int) % 4, (n.val : Int) / 4 % 4, (n.val : Int) / 16 % 4, (n.val : Int) / 64 % 4] := by
  decide +kernel
theorem digs_take {a : Int} (h0 : 0 ≤ a) (h1 : a < 256) : (digs a ++ [0, 0, 0, 0]).take 4 = [a % 4, a / 4 % 4, a / 16 % 4, a / 64 % 4] := by
  obtain ⟨n, rfl⟩ := Int.eq_ofNat_of_zero_le h0
  exact digs_take256 ⟨n, Int.ofNat_lt.mp h1⟩
theorem off_of {h₀ h : Heap} {L : Addr} {all rest its : List (Addr × Obj)} (N : News h₀ L h all) (sub : ∀ p ∈ rest, p ∈ all) (subI : ∀ p ∈ its, p ∈ all) (o : OffW its rest) : ∀ p ∈ rest, p.1 ∉ its.map (·.1) := by
  intro p hp q
  obtain ⟨r, hr, e⟩ := List.mem_map.mp q
  rcases o.at p hp r hr with z | z
  · exact z e.symm
  · have h1 := (N p (sub p hp)).1
    have h2 := (N r (subI r hr)).1
    rw [e, h1] at h2
    exact z (congrArg Obj.cls (Option.some.inj h2))
theorem dig_all {w : World} {c' : Addr} {ai : Int} (h0 : 0 ≤ ai) (h1 : ai < 256) {t u : Tok} {mean : ExcName → Option Value} {mg mb : Str → Option Value} {dp un : Nat} {gd : Option (List Code)} {cn : Str} {cs : Scope} {a : Addr} {ccd : Value} {cl : List (Str × Addr)} {outer : List Env} {A₀ : Around} {base h₀ : Heap} {L : Addr} {m : Str → Option Value} {s : Shared} {Q E : Value → Shared → Prop} {all rest : List (Addr × Obj)}
    (B : Below A₀ base outer h₀) (F : Fr h₀ L s.heap m) (X : (KF w.params).In h₀) (NA : News h₀ L s.heap all) (R1 : Rem (104, tabObj (tabOf 19 4 c')) all rest) (o : OffW [(104, tabObj (tabOf 19 4 c'))] rest)
    (hc : s.heap.CodeRec (.ref c') qI) (hcn : c' ≠ 104) (T : Top topProg LN mean mg mb h₀) (hk : cs.kind = .function) (hd : dp + 6 < recursionLimit) (hu : un + 48 < cLine)
    (hret : ∀ l vs n h' tk', IntsAre vs (digs ai) → Fr h₀ L h' m → News h₀ L h' ((l, W.listOf vs.toArray n) :: (104, tabObj (tabOf 19 4 c')) :: rest) → (∀ p ∈ (104, tabObj (tabOf 19 4 c')) :: rest, p.1 < l) → Q (.ref l) { s with heap := h', toks := tk' }) :
    wpAny (model PW w) (ktrTop dp un gd cn cs L a ccd cl outer) (call (.ref 109) [.int ai t, .int 2 u]) Q E s := by
  have N : News h₀ L s.heap [(104, tabObj (tabOf 19 4 c'))] := cb_drop NA (by intro p hp; rw [List.mem_singleton.mp hp]; exact R1.mem)
  have NR : News h₀ L s.heap rest := cb_drop NA R1.sub
  have off : ∀ p ∈ rest, p.1 ∉ [((104 : Addr), tabObj (tabOf 19 4 c'))].map (·.1) := off_of NA R1.sub (by intro p hp; rw [List.mem_singleton.mp hp]; exact R1.mem) o
  have hret' : ∀ l vs n h' tk', IntsAre vs (digs ai) → Fr h₀ L h' m → News h₀ L h' [(l, W.listOf vs.toArray n), (104, tabObj (tabOf 19 4 c'))] → News h₀ L h' rest → (∀ p ∈ rest, @LT.lt Nat _ p.1 l) → @LT.lt Nat _ 104 l → Q (.ref l) { s with heap := h', toks := tk' } := by
    intro l vs n h' tk' hi F' N1 N2 l1 l2
    refine hret l vs n h' tk' hi F' (news_app N1 N2) (fun p hp => ?_)
    rcases List.mem_cons.mp hp with rfl | hp
    · exact l2
    · exact l1 p hp
  unfold digs at hret'
  by_cases e0 : ai = 0
  · subst e0
    rw [if_pos rfl] at hret'
    exact dig0 B F X N NR off hc hcn T hk hd hu hret'
  rw [if_neg e0] at hret'
  by_cases e1 : ai < 4
  · rw [if_pos e1] at hret'
    exact dig1 (by omega) e1 B F X N NR off hc hcn T hk hd hu hret'
  rw [if_neg e1] at hret'
  by_cases e2 : ai < 16
  · rw [if_pos e2] at hret'
    exact dig2 (by omega) e2 B F X N NR off hc hcn T hk hd hu hret'
  rw [if_neg e2] at hret'
  by_cases e3 : ai < 64
  · rw [if_pos e3] at hret'
    exact dig3 (by omega) e3 B F X N NR off hc hcn T hk hd hu hret'
  rw [if_neg e3] at hret'
  exact dig4 (by omega) h1 B F X N NR off hc hcn T hk hd hu hret'
theorem dig_first {w : World} {ai : Int} (h0 : 1 ≤ ai) (h1 : ai < 4) {t u : Tok} {mean : ExcName → Option Value} {mg mb : Str → Option Value} {dp un : Nat} {gd : Option (List Code)} {cn : Str} {cs : Scope} {a : Addr} {ccd : Value} {cl : List (Str × Addr)} {outer : List Env} {A₀ : Around} {base h₀ : Heap} {L : Addr} {m : Str → Option Value} {s : Shared} {Q E : Value → Shared → Prop} {all rest : List (Addr × Obj)}
    (B : Below A₀ base outer h₀) (F : Fr h₀ L s.heap m) (X : (KF w.params).In h₀) (NA : News h₀ L s.heap all) (R1 : Rem (104, tabObj #[]) all rest) (o : OffW [(104, tabObj #[])] rest)
    (T : Top topProg LN mean mg mb h₀) (hk : cs.kind = .function) (hd : dp + 6 < recursionLimit) (hu : un + 48 < cLine)
    (hret : ∀ l vs n h' tk' c' oc, IntsAre vs (digs ai) → CodeObj oc qI → Fr h₀ L h' m → News h₀ L h' ((l, W.listOf vs.toArray n) :: (104, tabObj (tabOf 19 4 c')) :: (c', oc) :: rest) → (∀ p ∈ (104, tabObj (tabOf 19 4 c')) :: rest, p.1 < l) → @LT.lt Nat _ l c' → Q (.ref l) { s with heap := h', toks := tk' }) :
    wpAny (model PW w) (ktrTop dp un gd cn cs L a ccd cl outer) (call (.ref 109) [.int ai t, .int 2 u]) Q E s := by
  have N : News h₀ L s.heap [(104, tabObj #[])] := cb_drop NA (by intro p hp; rw [List.mem_singleton.mp hp]; exact R1.mem)
  have NR : News h₀ L s.heap rest := cb_drop NA R1.sub
  have off : ∀ p ∈ rest, p.1 ∉ [((104 : Addr), tabObj #[])].map (·.1) := off_of NA R1.sub (by intro p hp; rw [List.mem_singleton.mp hp]; exact R1.mem) o
  have hg : digs ai = [ai] := by unfold digs; rw [if_neg (by omega), if_pos h1]
  rw [hg] at hret
  refine digF h0 h1 B F X N NR off T hk hd hu fun l vs n h' tk' c' oc hi co F' N1 N2 l1 l2 l3 _ _ => hret l vs n h' tk' c' oc hi co F' (news_app N1 N2) (fun p hp => ?_) l3
  rcases List.mem_cons.mp hp with rfl | hp
  · exact l2
  · exact l1 p hp
end Mine
end

section
open PySem PySem.W PyProof.Rows PySem.Spec PySem.Calls PyProof.V
open PyProof.Rows.LCg (NsObj Off3 Off1 lst ns_obj fr_but news_but)
set_option Elab.async false
set_option maxRecDepth 100000
namespace Mine
theorem kwn_CT : True := by
  k_with_none
  trivial
noncomputable abbrev tupA (its : Array Value) : Obj := { cls := .type "tuple", data := .seq its }
section
variable {prog : Program} {w : World} {A : Around} {E : Value → Shared → Prop} {s : Shared} {h₀ : Heap} {L : Addr} {m : Str → Option Value}
/-- a list comprehension whose first clause goes over a tuple that its source makes -/
theorem comp_tup {elt tgt iter : PySem.Expr} {ifs : List PySem.Expr} {gs : List Comprehension} {scope : Scope} {pos : Pos} {env : Env} {cl : List (Str × Addr)} {its : Array Value} {Q : Value → Shared → Prop} {S : Addr → List (Addr × Obj) → Prop} {news : List (Addr × Obj)}
    {body : Addr → Addr → Addr → Value → Sem Fin} {p : Pos} {Fin : Addr → Addr → List Value → List (Addr × Obj) → Prop}
    (heq : ∀ I C D, compTurn (.ListComp elt (⟨tgt, iter, ifs, 0⟩ :: gs) scope pos) 0 (.ref I) (.ref D) (compEnvC scope cl C env) = (standAt p >>= fun _ => pyNext (.ref I) >>= fun r => match r with
      | none => pure (.done .next)
      | some v => body I C D v))
    (hh : A.handled = none) (hclos : closureFor scope env = pure cl) (hcell : ∀ y ∈ scope.names, y.2 ≠ .cell) (hkind : scope.kind = .function)
    (hnames : ∀ y ∈ scope.names, y.2 = .local → scope.names.lookup y.1 = some .local)
    (hS : ∀ ax, S ax ((ax, tupA its) :: news)) (hSa : ∀ ax nw, S ax nw → (ax, tupA its) ∈ nw)
    (hR : ∀ ax I C D s', (∀ p ∈ news, @LT.lt Nat _ p.1 ax) → (∀ p ∈ (ax, tupA its) :: news, @LT.lt Nat _ p.1 I) → @LT.lt Nat _ I D → @LT.lt Nat _ D C → s'.gens = s.gens → s'.drawn = s.drawn → s'.os = s.os →
      XRest prog w A h₀ L m s' I C D (body I C D) (.compLoop (.ListComp elt (⟨tgt, iter, ifs, 0⟩ :: gs) scope pos) 0 (.ref I) (.ref D) (compEnvC scope cl C env)) (S ax) (fun i v => its[i]? = some v) (fun i h => h.IsTupleIter I ax i ∧ h.IsTuple ax its) (Fin ax D) its.size 0 [] ((ax, tupA its) :: news))
    (hfin : ∀ ax D h tk ys news', Fr h₀ L h m → News h₀ L h ((D, lst ys) :: news') → (∀ p ∈ news', p.1 ≠ D) → S ax news' → Fin ax D ys news' → Q (.ref D) { s with heap := h, toks := tk })
    (hs : ∀ x, foldedSetIterable iter env x = pure x := by intro _; rfl)
    (hev : wpAny (model prog w) A (eval iter env) (fun v s' => ∃ ax h1 tk1, v = .ref ax ∧ s' = { s with heap := h1, toks := tk1 } ∧ Fr h₀ L h1 m ∧ News h₀ L h1 ((ax, tupA its) :: news) ∧ (∀ p ∈ news, @LT.lt Nat _ p.1 ax)) E s) :
    wpAny (model prog w) A (eval (.ListComp elt (⟨tgt, iter, ifs, 0⟩ :: gs) scope pos) env) Q E s := by
  rw [eval_ListComp]
  refine wpAny_comprehension_free (use := none) rfl hs hclos hkind hnames (wpAny_mono hev (fun xv s₀ h₁ => ?_) fun _ _ e => e)
  obtain ⟨ax, hq, tkq, rfl, es, F, N, hlax⟩ := h₁
  obtain ⟨s₁, hs₁, F, N⟩ : ∃ s₁ : Shared, s₁ = { s with heap := hq, toks := tkq } ∧ Fr h₀ L s₁.heap m ∧ News h₀ L s₁.heap ((ax, tupA its) :: news) := ⟨_, rfl, F, N⟩
  rw [es, ← hs₁]
  have hax : (ax, tupA its) ∈ (ax, tupA its) :: news := .head _
  have hfin' : ∀ D h tk ys news', Fr h₀ L h m → News h₀ L h ((D, lst ys) :: news') → (∀ p ∈ news', p.1 ≠ D) → S ax news' → Fin ax D ys news' → Q (.ref D) { s₁ with heap := h, toks := tk } := by
    intro D h tk ys news' a b c d e
    rw [hs₁]
    exact hfin ax D h tk ys news' a b c d e
  clear hfin
  have hl : s₁.heap.IsTuple ax its := ⟨_, (N _ hax).1, rfl, _, rfl⟩
  have hlt : ax < s₁.heap.objs.size := Heap.lt_size (N _ hax).1
  refine wpAny_pyIter_tuple hl ?_
  refine wpAny_newObj_type (wpAny_newFunctionEnv hcell (by intro y hy; simp at hy) (fun h₁ hns₁ hsb₁ => ?_) hkind)
  dsimp only at hns₁ hsb₁ ⊢
  generalize hH1 : s₁.heap.push { cls := .type "tuple_iterator", data := .fields #[.ref ax, .int 0 0] } = H1 at hns₁ hsb₁ ⊢
  generalize hH2 : H1.push { cls := .type "list", dict := none, data := .seq ([] : List Value).toArray } = H2 at hns₁ hsb₁ ⊢
  have z1 : H1.objs.size = s₁.heap.objs.size + 1 := by rw [← hH1, Heap.size_push]
  have z2 : H2.objs.size = s₁.heap.objs.size + 2 := by rw [← hH2, Heap.size_push, z1]
  have old1 : ∀ b o, s₁.heap.get? b = some o → H1.get? b = some o := fun b o e => by rw [← hH1]; exact Heap.get?_push_of_some _ e
  have old2 : ∀ b o, H1.get? b = some o → H2.get? b = some o := fun b o e => by rw [← hH2]; exact Heap.get?_push_of_some _ e
  have hb2 : ∀ b o, H2.get? b = some o → b ≠ H2.objs.size := fun b o e => Nat.ne_of_lt (Heap.lt_size e)
  have old : ∀ b o, s₁.heap.get? b = some o → h₁.get? b = some o := fun b o e => hsb₁.extBut b o (hb2 _ _ (old2 _ _ (old1 _ _ e))) (Heap.get?_push_of_some _ (old2 _ _ (old1 _ _ e)))
  have hI : H1.get? s₁.heap.objs.size = some { cls := .type "tuple_iterator", data := .fields #[.ref ax, .int 0 0] } := by rw [← hH1]; exact Heap.get?_push_size _ rfl
  have hI1 : h₁.get? s₁.heap.objs.size = some { cls := .type "tuple_iterator", data := .fields #[.ref ax, .int 0 0] } := hsb₁.extBut _ _ (hb2 _ _ (old2 _ _ hI)) (Heap.get?_push_of_some _ (old2 _ _ hI))
  have hD : H2.get? H1.objs.size = some (lst []) := by rw [← hH2]; exact Heap.get?_push_size _ rfl
  have hD1 : h₁.get? H1.objs.size = some (lst []) := hsb₁.extBut _ _ (hb2 _ _ hD) (Heap.get?_push_of_some _ hD)
  have F1 : Fr h₀ L h₁ m := F.keeps old
  have Llt := F.ns.lt
  have lt0 : ∀ p ∈ (ax, tupA its) :: news, @LT.lt Nat _ p.1 s₁.heap.objs.size := fun p hp => Heap.lt_size (N p hp).1
  have cI : s₁.heap.objs.size ≠ H2.objs.size := by rw [z2]; exact Nat.ne_of_lt (by omega)
  have dI : s₁.heap.objs.size ≠ H1.objs.size := by rw [z1]; exact Nat.ne_of_lt (by omega)
  have loop : codeAny (model prog w) A (.compLoop (.ListComp elt (⟨tgt, iter, ifs, 0⟩ :: gs) scope pos) 0 (.ref s₁.heap.objs.size) (.ref H1.objs.size) (compEnvC scope cl H2.objs.size env)) (compPost (model prog w) A E none Q (.ref H1.objs.size) H2.objs.size)
      { s₁ with heap := h₁, toks := s₁.toks + ([] : List (Str × Value)).length } := by
    refine compX (s := { s₁ with heap := h₁, toks := s₁.toks + ([] : List (Str × Value)).length }) (heq _ _ _) (Walks.tuple hh s₁.heap.objs.size ax (Nat.ne_of_lt hlt) its) (fun i h st => by obtain ⟨o, e, _⟩ := st.1; exact ⟨o, e⟩)
      (fun i h h' o nw st e1 e2 _ NN SS => ?_) (Nat.ne_of_lt Llt) (next_new F (Nat.le_refl _)) (fun q => ?_) (next_new F (by rw [z2]; omega)) cI dI
      ⟨⟨_, hI1, rfl, rfl⟩, ⟨_, old _ _ (N _ hax).1, rfl, _, rfl⟩⟩ F1 hns₁ (fun p hp => ?_) (Off3.of fun p hp => ⟨Nat.ne_of_lt (lt0 p hp), Nat.ne_of_lt (Nat.lt_trans (lt0 p hp) (by rw [z2]; omega)), Nat.ne_of_lt (Nat.lt_trans (lt0 p hp) (by rw [z1]; omega))⟩) (hS ax) (hR ax _ _ _ _ hlax lt0 (by rw [z1]; omega) (by rw [z1, z2]; omega) (by rw [hs₁]) (by rw [hs₁]) (by rw [hs₁])) (fun h tk mC ys nw F' hn N' off' S' fin => ?_)
    · refine ⟨?_, ⟨_, (NN _ (hSa ax _ SS)).1, rfl, _, rfl⟩⟩
      obtain ⟨o', e, r⟩ := st.1
      rw [e1] at e; cases e
      exact ⟨_, e2, r⟩
    · rw [z2] at q; exact absurd Llt (by rw [← q]; exact Nat.not_lt.mpr (by omega))
    · rcases List.mem_cons.mp hp with rfl | hp
      · exact ⟨hD1, fun q => absurd Llt (by rw [← q, z1]; exact Nat.not_lt.mpr (by omega)), next_new F (by rw [z1]; omega)⟩
      · exact ⟨old _ _ (N p hp).1, (N p hp).2⟩
    · have o3 := off'.mem
      have hC₀ : h₀.get? H2.objs.size = none := next_new F (by rw [z2]; omega)
      have hCL : H2.objs.size ≠ L := fun q => absurd Llt (by rw [← q, z2]; exact Nat.not_lt.mpr (by omega))
      refine ⟨mC, hn, fun h'' hs'' => hfin' _ h'' tk ys nw (F'.change hs'' hCL hC₀) (fun p hp => ?_) (fun p hp => (o3 p hp).2.2) S' fin⟩
      refine ⟨hs''.extBut _ _ ?_ (N' p hp).1, (N' p hp).2⟩
      rcases List.mem_cons.mp hp with rfl | hp
      · rw [z1, z2]; exact Nat.ne_of_lt (by omega)
      · exact (o3 p hp).2.1
  refine codeAny_compStart_list loop ?_
  refine (Walks.tuple hh s₁.heap.objs.size ax (Nat.ne_of_lt hlt) its).self 0 _ _ _ ⟨⟨_, hI1, rfl, rfl⟩, ⟨_, old _ _ (N _ hax).1, rfl, _, rfl⟩⟩ loop
end
end Mine
end

section
open PySem PySem.W PyProof.Rows PySem.Spec PySem.Calls PyProof.V
open PyProof.Rows.LCg (NsObj Off3 Off1 lst ns_obj fr_but news_but lst_snoc)
set_option Elab.async false
set_option maxRecDepth 100000
namespace Mine
theorem kwn_CK : True := by
  k_with_none
  trivial
/-- a turn that gives one item to the list and leaves the ledger as it was -/
theorem keep_turn {prog : Program} {w : World} {A : Around} {h₀ : Heap} {L : Addr} {m : Str → Option Value} {s : Shared} {env : Env} {scope : Scope} {cl : List (Str × Addr)} {pos px : Pos} {elt iter : PySem.Expr} {x : Str} {I C D : Addr} {k i : Nat} {ys : List Value} {news : List (Addr × Obj)} {v : Value} {f : Tok → Value}
    {S : List (Addr × Obj) → Prop} {P : Nat → Value → Prop} {St : Nat → Heap → Prop} {Fin : List Value → List (Addr × Obj) → Prop}
    (hkind : scope.kind = .function) (kx : scope.names.lookup x = some .local) (hID : @LT.lt Nat _ I D) (hDC : @LT.lt Nat _ D C) (hys : ys.length ≤ 100) (hi : ∀ u, P i u → u = v)
    (hE : ∀ oI oC mC h tk (E : Value → Shared → Prop), Fr h₀ L h m → NsObj oC mC → mC x = some v → News h₀ L h ((I, oI) :: (C, oC) :: (D, lst ys) :: news) → Off3 I C D news →
      wpAny (model prog w) A (eval elt (compEnvC scope cl C env)) (fun y s' => ∃ t h' tk', y = f t ∧ s' = { s with heap := h', toks := tk' } ∧ Fr h₀ L h' m ∧ News h₀ L h' ((I, oI) :: (C, oC) :: (D, lst ys) :: news)) E { s with heap := h, toks := tk })
    (next : ∀ t, XRest prog w A h₀ L m s I C D (bodyT elt (.Name x px) iter scope pos cl env I C D) (.compLoop (.ListComp elt [⟨.Name x px, iter, [], 0⟩] scope pos) 0 (.ref I) (.ref D) (compEnvC scope cl C env)) S P St Fin k (i + 1) (ys ++ [f t]) news) :
    XRest prog w A h₀ L m s I C D (bodyT elt (.Name x px) iter scope pos cl env I C D) (.compLoop (.ListComp elt [⟨.Name x px, iter, [], 0⟩] scope pos) 0 (.ref I) (.ref D) (compEnvC scope cl C env)) S P St Fin (k + 1) i ys news := by
  intro u oI oC m₂ h tk E' hP ho F N off hS hst
  have hv := hi u hP
  subst hv
  have hIC : I ≠ C := Nat.ne_of_lt (Nat.lt_trans hID hDC)
  have hn : (compEnvC scope cl C env).scope.kind = .function := by simp [compEnvC, relabel, hkind]
  unfold bodyT
  refine wpAny_bind (wpAny_of_eq (show letOwnedTupleGo (.Name x px) (.ref I) u = pure () from rfl) ?_)
  have x0 : XAt h₀ L m I oI C D ys news m₂ h := ⟨oC, F, ho, N⟩
  refine wpAny_bind (put_name (env := compEnvC scope cl C env) (lookup_relabel_local kx) hn x0.ns fun h2 tk2 n2 kp2 => ?_)
  obtain ⟨oC2, F2, ho2, N2⟩ := x0.store n2 kp2 hIC (Nat.ne_of_lt hDC) off
  refine wpAny_bind (wpAny_bind (wpAny_mono (hE oI oC2 _ h2 tk2 _ F2 ho2 (by simp [upd]) N2 off) (fun y s3 h3 => ?_) fun _ _ e => e))
  obtain ⟨t, h3, tk3, rfl, rfl, F3, N3⟩ := h3
  have x3 : XAt h₀ L m I oI C D ys news _ h3 := ⟨oC2, F3, ho2, N3⟩
  refine wpAny_bind (push_item (by have z : (100 : Nat) ≤ sizeLine := by decide
                                   exact Nat.le_trans hys z) x3 off (Nat.ne_of_lt hID) (Ne.symm (Nat.ne_of_lt hDC)) fun v4 h4 x4 => ?_)
  obtain ⟨oC4, F4, ho4, N4⟩ := x4
  exact wpAny_pure (wpAny_pure ⟨rfl, _, _, oC4, _, _, _, rfl, F4, ho4, N4, off, hS, next t⟩)
end Mine
end

section
open PySem PySem.W PyProof.Rows PySem.Spec PySem.Calls
open PyProof.Rows.LCg (NsObj Off3 Off1 lst ns_obj fr_but news_but lst_snoc)
set_option Elab.async false
set_option maxRecDepth 100000
namespace Mine
theorem kwn_OE : True := by
  k_with_none
  trivial
theorem fillOE : RW = RW ∧ KF = KF := by
  k_fill
  exact ⟨rfl, rfl⟩
set_option maxHeartbeats 0
set_option rowWalk.seconds 0
theorem out_elt {w : World} {kn td : Addr} {k0 k1 k2 k3 : Int} {tk0 tk1 tk2 tk3 : Tok} {nk : Nat} {od : Obj} {c0 c1 c2 c3 c4 c5 c6 c7 c8 : Addr} {g0 g1 g2 g3 g4 g5 g6 g7 g8 d0 d1 d2 d3 d4 d5 d6 d7 d8 : Int} {gt0 gt1 gt2 gt3 gt4 gt5 gt6 gt7 gt8 rt0 rt1 rt2 rt3 rt4 rt5 rt6 rt7 rt8 : Tok} {mean : ExcName → Option Value} {mg mb : Str → Option Value} {dp un : Nat} {gd : Option (List Code)} {cn : Str} {cs : Scope} {a : Addr} {ccd : Value} {cl : List (Str × Addr)} {outer : List Env} {A₀ : Around} {base h₀ : Heap} {L : Addr} {m : Str → Option Value} {s : Shared} {E : Value → Shared → Prop} {c : Fin 3} {x : Int} {tx ts : Tok} {R0 : List (Addr × Obj)} {ct cg ck : Addr} {oct ocg ock : Obj} {I C D : Addr} {oI oC : Obj} {ys : List Value} {mC : Str → Option Value} {scope : Scope} {cle : List (Str × Addr)} {env : Env} {q1 q2 q3 q4 q5 q6 : Pos}
    (hx0 : 0 ≤ x) (hx1 : x < 4) (hk0 : 0 ≤ k0 ∧ k0 < 4) (hk1 : 0 ≤ k1 ∧ k1 < 4) (hk2 : 0 ≤ k2 ∧ k2 < 4) (hk3 : 0 ≤ k3 ∧ k3 < 4) (hg0 : 1 ≤ g0 ∧ g0 < 4) (hg1 : 1 ≤ g1 ∧ g1 < 4) (hg2 : 1 ≤ g2 ∧ g2 < 4) (hg3 : 1 ≤ g3 ∧ g3 < 4) (hg4 : 1 ≤ g4 ∧ g4 < 4) (hg5 : 1 ≤ g5 ∧ g5 < 4) (hg6 : 1 ≤ g6 ∧ g6 < 4) (hg7 : 1 ≤ g7 ∧ g7 < 4) (hg8 : 1 ≤ g8 ∧ g8 < 4)
    (ho : od.IsDictOf (strKind PW w) [(Str.ofString "pf", Value.ref c0), (Str.ofString "pi", Value.ref c1), (Str.ofString "qf", Value.ref c2), (Str.ofString "qi", Value.ref c3), (Str.ofString "rf", Value.ref c4), (Str.ofString "ri", Value.ref c5), (Str.ofString "p.", Value.ref c6), (Str.ofString "q.", Value.ref c7), (Str.ofString "r.", Value.ref c8)]) (offR : ∀ p ∈ R0, p.1 ∉ [(kn, W.listOf #[.int k0 tk0, .int k1 tk1, .int k2 tk2, .int k3 tk3] nk), (td, od), (c0, tup2 (.int g0 gt0) (.int d0 rt0)), (c1, tup2 (.int g1 gt1) (.int d1 rt1)), (c2, tup2 (.int g2 gt2) (.int d2 rt2)), (c3, tup2 (.int g3 gt3) (.int d3 rt3)), (c4, tup2 (.int g4 gt4) (.int d4 rt4)), (c5, tup2 (.int g5 gt5) (.int d5 rt5)), (c6, tup2 (.int g6 gt6) (.int d6 rt6)), (c7, tup2 (.int g7 gt7) (.int d7 rt7)), (c8, tup2 (.int g8 gt8) (.int d8 rt8))].map (·.1))
    (hct : (ct, oct) ∈ R0) (dct : oct.data = .cell (some (.ref td))) (hcg : (cg, ocg) ∈ R0) (dcg : ocg.data = .cell (some (.str ⟨#[sC c]⟩ ts))) (hck : (ck, ock) ∈ R0) (dck : ock.data = .cell (some (.ref kn)))
    (hkind : scope.kind = .function) (kx : scope.names.lookup (Str.ofString "mind") = some .local) (f1 : (compEnvC scope cle C env).kindOf (Str.ofString "known") = some .cell) (f2 : (compEnvC scope cle C env).kindOf (Str.ofString "sign") = some .cell) (f3 : (compEnvC scope cle C env).kindOf (Str.ofString "told") = some .cell) (f4 : (compEnvC scope cle C env).kindOf (Str.ofString "_law_out") = some .globalImplicit)
    (lk1 : cle.lookup (Str.ofString "known") = some ck) (lk2 : cle.lookup (Str.ofString "sign") = some cg) (lk3 : cle.lookup (Str.ofString "told") = some ct) (hge : env.globals = mainGlobals)
    (B : Below A₀ base outer h₀) (F : Fr h₀ L s.heap m) (X : (KF w.params).In h₀) (N : News h₀ L s.heap ((I, oI) :: (C, oC) :: (D, lst ys) :: [(kn, W.listOf #[.int k0 tk0, .int k1 tk1, .int k2 tk2, .int k3 tk3] nk), (td, od), (c0, tup2 (.int g0 gt0) (.int d0 rt0)), (c1, tup2 (.int g1 gt1) (.int d1 rt1)), (c2, tup2 (.int g2 gt2) (.int d2 rt2)), (c3, tup2 (.int g3 gt3) (.int d3 rt3)), (c4, tup2 (.int g4 gt4) (.int d4 rt4)), (c5, tup2 (.int g5 gt5) (.int d5 rt5)), (c6, tup2 (.int g6 gt6) (.int d6 rt6)), (c7, tup2 (.int g7 gt7) (.int d7 rt7)), (c8, tup2 (.int g8 gt8) (.int d8 rt8))] ++ R0)) (off3 : Off3 I C D ([(kn, W.listOf #[.int k0 tk0, .int k1 tk1, .int k2 tk2, .int k3 tk3] nk), (td, od), (c0, tup2 (.int g0 gt0) (.int d0 rt0)), (c1, tup2 (.int g1 gt1) (.int d1 rt1)), (c2, tup2 (.int g2 gt2) (.int d2 rt2)), (c3, tup2 (.int g3 gt3) (.int d3 rt3)), (c4, tup2 (.int g4 gt4) (.int d4 rt4)), (c5, tup2 (.int g5 gt5) (.int d5 rt5)), (c6, tup2 (.int g6 gt6) (.int d6 rt6)), (c7, tup2 (.int g7 gt7) (.int d7 rt7)), (c8, tup2 (.int g8 gt8) (.int d8 rt8))] ++ R0)) (hoC : NsObj oC mC) (em : mC (Str.ofString "mind") = some (.int x tx)) (T : Top topProg LN mean mg mb h₀) (hk : cs.kind = .function) (hd : dp + 4 < recursionLimit) (hu : un + 32 < cLine) :
    wpAny (model PW w) (ktrTop dp un gd cn cs L a ccd cl outer) (eval (.Call (.Name (Str.ofString "_law_out") q1) [.Name (Str.ofString "known") q2, .Name (Str.ofString "mind") q3, .Name (Str.ofString "sign") q4, .Name (Str.ofString "told") q5] [] q6) (compEnvC scope cle C env)) (fun y s' => ∃ t h' tk', y = .int (outI (kI k0 k1 k2 k3) (fun y => (pick g0 g1 g2 g3 g4 g5 g6 g7 g8 (tg y) c)) (fun y => (pick d0 d1 d2 d3 d4 d5 d6 d7 d8 (tg y) c)) 3 x) t ∧ s' = { s with heap := h', toks := tk' } ∧ Fr h₀ L h' m ∧ News h₀ L h' ((I, oI) :: (C, oC) :: (D, lst ys) :: [(kn, W.listOf #[.int k0 tk0, .int k1 tk1, .int k2 tk2, .int k3 tk3] nk), (td, od), (c0, tup2 (.int g0 gt0) (.int d0 rt0)), (c1, tup2 (.int g1 gt1) (.int d1 rt1)), (c2, tup2 (.int g2 gt2) (.int d2 rt2)), (c3, tup2 (.int g3 gt3) (.int d3 rt3)), (c4, tup2 (.int g4 gt4) (.int d4 rt4)), (c5, tup2 (.int g5 gt5) (.int d5 rt5)), (c6, tup2 (.int g6 gt6) (.int d6 rt6)), (c7, tup2 (.int g7 gt7) (.int d7 rt7)), (c8, tup2 (.int g8 gt8) (.int d8 rt8))] ++ R0)) E s := by
  have hn : (compEnvC scope cle C env).scope.kind = .function := by simp [compEnvC, relabel, hkind]
  have inR : ∀ p ∈ R0, p ∈ (I, oI) :: (C, oC) :: (D, lst ys) :: [(kn, W.listOf #[.int k0 tk0, .int k1 tk1, .int k2 tk2, .int k3 tk3] nk), (td, od), (c0, tup2 (.int g0 gt0) (.int d0 rt0)), (c1, tup2 (.int g1 gt1) (.int d1 rt1)), (c2, tup2 (.int g2 gt2) (.int d2 rt2)), (c3, tup2 (.int g3 gt3) (.int d3 rt3)), (c4, tup2 (.int g4 gt4) (.int d4 rt4)), (c5, tup2 (.int g5 gt5) (.int d5 rt5)), (c6, tup2 (.int g6 gt6) (.int d6 rt6)), (c7, tup2 (.int g7 gt7) (.int d7 rt7)), (c8, tup2 (.int g8 gt8) (.int d8 rt8))] ++ R0 := fun p hp => .tail _ (.tail _ (.tail _ (List.mem_append_right _ hp)))
  have inO : ∀ p ∈ [(kn, W.listOf #[.int k0 tk0, .int k1 tk1, .int k2 tk2, .int k3 tk3] nk), (td, od), (c0, tup2 (.int g0 gt0) (.int d0 rt0)), (c1, tup2 (.int g1 gt1) (.int d1 rt1)), (c2, tup2 (.int g2 gt2) (.int d2 rt2)), (c3, tup2 (.int g3 gt3) (.int d3 rt3)), (c4, tup2 (.int g4 gt4) (.int d4 rt4)), (c5, tup2 (.int g5 gt5) (.int d5 rt5)), (c6, tup2 (.int g6 gt6) (.int d6 rt6)), (c7, tup2 (.int g7 gt7) (.int d7 rt7)), (c8, tup2 (.int g8 gt8) (.int d8 rt8))], p ∈ (I, oI) :: (C, oC) :: (D, lst ys) :: [(kn, W.listOf #[.int k0 tk0, .int k1 tk1, .int k2 tk2, .int k3 tk3] nk), (td, od), (c0, tup2 (.int g0 gt0) (.int d0 rt0)), (c1, tup2 (.int g1 gt1) (.int d1 rt1)), (c2, tup2 (.int g2 gt2) (.int d2 rt2)), (c3, tup2 (.int g3 gt3) (.int d3 rt3)), (c4, tup2 (.int g4 gt4) (.int d4 rt4)), (c5, tup2 (.int g5 gt5) (.int d5 rt5)), (c6, tup2 (.int g6 gt6) (.int d6 rt6)), (c7, tup2 (.int g7 gt7) (.int d7 rt7)), (c8, tup2 (.int g8 gt8) (.int d8 rt8))] ++ R0 := fun p hp => .tail _ (.tail _ (.tail _ (List.mem_append_left _ hp)))
  have hg : nsIn (KF w.params) mainGlobals (Str.ofString "_law_out") = some (some (.ref 313)) := by k_is
  refine Call_ (LCgL.ld_global F X T hg ?_ hge hn f4)
  refine callWith_K X (by k_is) ?_
  refine spliced_more (lcf_cell N lk1 (inR _ hck) dck ?_ hn f1)
  refine spliced_more (LCgL.ld_own N (.tail _ (.head _)) hoC em ?_ hn (lookup_relabel_local kx))
  refine spliced_more (lcf_cell N lk2 (inR _ hcg) dcg ?_ hn f2)
  refine spliced_more (lcf_cell N lk3 (inR _ hct) dct ?_ hn f3)
  refine spliced_none ⟨X.keeps F.keep, ?_⟩
  refine out_ok (rest := (I, oI) :: (C, oC) :: (D, lst ys) :: R0) hx0 hx1 hk0 hk1 hk2 hk3 hg0 hg1 hg2 hg3 hg4 hg5 hg6 hg7 hg8 ho B F X (cb_drop N inO) (cb_drop N fun p hp => ?_) (fun p hp q => ?_) T hk (by omega) (by omega) fun t h' tk' F' N1 N2 => ⟨t, h', tk', rfl, rfl, F', fun p hp => ?_⟩
  · rcases List.mem_cons.mp hp with rfl | hp
    · exact .head _
    rcases List.mem_cons.mp hp with rfl | hp
    · exact .tail _ (.head _)
    rcases List.mem_cons.mp hp with rfl | hp
    · exact .tail _ (.tail _ (.head _))
    · exact inR _ hp
  · obtain ⟨r, hr, e⟩ := List.mem_map.mp q
    have z := off3.mem r (List.mem_append_left _ hr)
    rcases List.mem_cons.mp hp with rfl | hp
    · exact z.1 e
    rcases List.mem_cons.mp hp with rfl | hp
    · exact z.2.1 e
    rcases List.mem_cons.mp hp with rfl | hp
    · exact z.2.2 e
    · exact offR p hp q
  · rcases List.mem_cons.mp hp with rfl | hp
    · exact N2 _ (.head _)
    rcases List.mem_cons.mp hp with rfl | hp
    · exact N2 _ (.tail _ (.head _))
    rcases List.mem_cons.mp hp with rfl | hp
    · exact N2 _ (.tail _ (.tail _ (.head _)))
    rcases List.mem_append.mp hp with hp | hp
    · exact N1 _ hp
    · exact N2 _ (.tail _ (.tail _ (.tail _ hp)))
end Mine
end

section
open PySem PySem.W PyProof.Rows PySem.Spec PySem.Calls
open PyProof.Rows.LCg (NsObj Off3 Off1 lst ns_obj fr_but news_but lst_snoc)
set_option Elab.async false
set_option maxRecDepth 100000
namespace Mine
theorem kwn_OF : True := by
  k_with_none
  trivial
theorem fillOF : RW = RW ∧ KF = KF := by
  k_fill
  exact ⟨rfl, rfl⟩
set_option maxHeartbeats 0
set_option rowWalk.seconds 0
theorem out_comp {w : World} {kn td : Addr} {k0 k1 k2 k3 : Int} {tk0 tk1 tk2 tk3 : Tok} {nk : Nat} {od : Obj} {c0 c1 c2 c3 c4 c5 c6 c7 c8 : Addr} {g0 g1 g2 g3 g4 g5 g6 g7 g8 d0 d1 d2 d3 d4 d5 d6 d7 d8 : Int} {gt0 gt1 gt2 gt3 gt4 gt5 gt6 gt7 gt8 rt0 rt1 rt2 rt3 rt4 rt5 rt6 rt7 rt8 : Tok} {mean : ExcName → Option Value} {mg mb : Str → Option Value} {dp un : Nat} {gd : Option (List Code)} {cn : Str} {cs : Scope} {a : Addr} {ccd : Value} {cl : List (Str × Addr)} {outer : List Env} {A₀ : Around} {base h₀ : Heap} {L : Addr} {m : Str → Option Value} {s : Shared} {Q E : Value → Shared → Prop} {c : Fin 3} {ts tka u1 u2 u3 : Tok} {R0 : List (Addr × Obj)} {ct cg ck : Addr} {oct ocg ock : Obj} {scope : Scope} {cle : List (Str × Addr)} {env : Env} {iter : PySem.Expr} {pos px q1 q2 q3 q4 q5 q6 : Pos}
    (hk0 : 0 ≤ k0 ∧ k0 < 4) (hk1 : 0 ≤ k1 ∧ k1 < 4) (hk2 : 0 ≤ k2 ∧ k2 < 4) (hk3 : 0 ≤ k3 ∧ k3 < 4) (hg0 : 1 ≤ g0 ∧ g0 < 4) (hg1 : 1 ≤ g1 ∧ g1 < 4) (hg2 : 1 ≤ g2 ∧ g2 < 4) (hg3 : 1 ≤ g3 ∧ g3 < 4) (hg4 : 1 ≤ g4 ∧ g4 < 4) (hg5 : 1 ≤ g5 ∧ g5 < 4) (hg6 : 1 ≤ g6 ∧ g6 < 4) (hg7 : 1 ≤ g7 ∧ g7 < 4) (hg8 : 1 ≤ g8 ∧ g8 < 4)
    (ho : od.IsDictOf (strKind PW w) [(Str.ofString "pf", Value.ref c0), (Str.ofString "pi", Value.ref c1), (Str.ofString "qf", Value.ref c2), (Str.ofString "qi", Value.ref c3), (Str.ofString "rf", Value.ref c4), (Str.ofString "ri", Value.ref c5), (Str.ofString "p.", Value.ref c6), (Str.ofString "q.", Value.ref c7), (Str.ofString "r.", Value.ref c8)]) (offR : ∀ p ∈ R0, p.1 ∉ [(kn, W.listOf #[.int k0 tk0, .int k1 tk1, .int k2 tk2, .int k3 tk3] nk), (td, od), (c0, tup2 (.int g0 gt0) (.int d0 rt0)), (c1, tup2 (.int g1 gt1) (.int d1 rt1)), (c2, tup2 (.int g2 gt2) (.int d2 rt2)), (c3, tup2 (.int g3 gt3) (.int d3 rt3)), (c4, tup2 (.int g4 gt4) (.int d4 rt4)), (c5, tup2 (.int g5 gt5) (.int d5 rt5)), (c6, tup2 (.int g6 gt6) (.int d6 rt6)), (c7, tup2 (.int g7 gt7) (.int d7 rt7)), (c8, tup2 (.int g8 gt8) (.int d8 rt8))].map (·.1))
    (hct : (ct, oct) ∈ R0) (dct : oct.data = .cell (some (.ref td))) (hcg : (cg, ocg) ∈ R0) (dcg : ocg.data = .cell (some (.str ⟨#[sC c]⟩ ts))) (hck : (ck, ock) ∈ R0) (dck : ock.data = .cell (some (.ref kn)))
    (hclos : closureFor scope env = pure cle) (hcell : ∀ y ∈ scope.names, y.2 ≠ .cell) (hkind : scope.kind = .function) (hnames : ∀ y ∈ scope.names, y.2 = .local → scope.names.lookup y.1 = some .local)
    (kx : scope.names.lookup (Str.ofString "mind") = some .local) (f1 : ∀ C, (compEnvC scope cle C env).kindOf (Str.ofString "known") = some .cell) (f2 : ∀ C, (compEnvC scope cle C env).kindOf (Str.ofString "sign") = some .cell) (f3 : ∀ C, (compEnvC scope cle C env).kindOf (Str.ofString "told") = some .cell) (f4 : ∀ C, (compEnvC scope cle C env).kindOf (Str.ofString "_law_out") = some .globalImplicit)
    (lk1 : cle.lookup (Str.ofString "known") = some ck) (lk2 : cle.lookup (Str.ofString "sign") = some cg) (lk3 : cle.lookup (Str.ofString "told") = some ct) (hge : env.globals = mainGlobals)
    (B : Below A₀ base outer h₀) (X : (KF w.params).In h₀) (T : Top topProg LN mean mg mb h₀) (hk : cs.kind = .function) (hd : dp + 4 < recursionLimit) (hu : un + 32 < cLine)
    (hev : wpAny (model PW w) (ktrTop dp un gd cn cs L a ccd cl outer) (eval iter env) (fun v s' => ∃ ax h1 tkx, v = .ref ax ∧ s' = { s with heap := h1, toks := tkx } ∧ Fr h₀ L h1 m ∧ News h₀ L h1 ((ax, tupA #[.int k0 tka, .int 1 u1, .int 2 u2, .int 3 u3]) :: ([(kn, W.listOf #[.int k0 tk0, .int k1 tk1, .int k2 tk2, .int k3 tk3] nk), (td, od), (c0, tup2 (.int g0 gt0) (.int d0 rt0)), (c1, tup2 (.int g1 gt1) (.int d1 rt1)), (c2, tup2 (.int g2 gt2) (.int d2 rt2)), (c3, tup2 (.int g3 gt3) (.int d3 rt3)), (c4, tup2 (.int g4 gt4) (.int d4 rt4)), (c5, tup2 (.int g5 gt5) (.int d5 rt5)), (c6, tup2 (.int g6 gt6) (.int d6 rt6)), (c7, tup2 (.int g7 gt7) (.int d7 rt7)), (c8, tup2 (.int g8 gt8) (.int d8 rt8))] ++ R0)) ∧ (∀ p ∈ [(kn, W.listOf #[.int k0 tk0, .int k1 tk1, .int k2 tk2, .int k3 tk3] nk), (td, od), (c0, tup2 (.int g0 gt0) (.int d0 rt0)), (c1, tup2 (.int g1 gt1) (.int d1 rt1)), (c2, tup2 (.int g2 gt2) (.int d2 rt2)), (c3, tup2 (.int g3 gt3) (.int d3 rt3)), (c4, tup2 (.int g4 gt4) (.int d4 rt4)), (c5, tup2 (.int g5 gt5) (.int d5 rt5)), (c6, tup2 (.int g6 gt6) (.int d6 rt6)), (c7, tup2 (.int g7 gt7) (.int d7 rt7)), (c8, tup2 (.int g8 gt8) (.int d8 rt8))] ++ R0, @LT.lt Nat _ p.1 ax)) E s)
    (hs : ∀ x, foldedSetIterable iter env x = pure x)
    (hret : ∀ D t0 t1 t2 t3 h tk, Fr h₀ L h m → News h₀ L h ((D, W.listOf #[.int (outI (kI k0 k1 k2 k3) (fun y => (pick g0 g1 g2 g3 g4 g5 g6 g7 g8 (tg y) c)) (fun y => (pick d0 d1 d2 d3 d4 d5 d6 d7 d8 (tg y) c)) 3 k0) t0, .int (outI (kI k0 k1 k2 k3) (fun y => (pick g0 g1 g2 g3 g4 g5 g6 g7 g8 (tg y) c)) (fun y => (pick d0 d1 d2 d3 d4 d5 d6 d7 d8 (tg y) c)) 3 1) t1, .int (outI (kI k0 k1 k2 k3) (fun y => (pick g0 g1 g2 g3 g4 g5 g6 g7 g8 (tg y) c)) (fun y => (pick d0 d1 d2 d3 d4 d5 d6 d7 d8 (tg y) c)) 3 2) t2, .int (outI (kI k0 k1 k2 k3) (fun y => (pick g0 g1 g2 g3 g4 g5 g6 g7 g8 (tg y) c)) (fun y => (pick d0 d1 d2 d3 d4 d5 d6 d7 d8 (tg y) c)) 3 3) t3] 4) :: ([(kn, W.listOf #[.int k0 tk0, .int k1 tk1, .int k2 tk2, .int k3 tk3] nk), (td, od), (c0, tup2 (.int g0 gt0) (.int d0 rt0)), (c1, tup2 (.int g1 gt1) (.int d1 rt1)), (c2, tup2 (.int g2 gt2) (.int d2 rt2)), (c3, tup2 (.int g3 gt3) (.int d3 rt3)), (c4, tup2 (.int g4 gt4) (.int d4 rt4)), (c5, tup2 (.int g5 gt5) (.int d5 rt5)), (c6, tup2 (.int g6 gt6) (.int d6 rt6)), (c7, tup2 (.int g7 gt7) (.int d7 rt7)), (c8, tup2 (.int g8 gt8) (.int d8 rt8))] ++ R0)) → (∀ p ∈ [(kn, W.listOf #[.int k0 tk0, .int k1 tk1, .int k2 tk2, .int k3 tk3] nk), (td, od), (c0, tup2 (.int g0 gt0) (.int d0 rt0)), (c1, tup2 (.int g1 gt1) (.int d1 rt1)), (c2, tup2 (.int g2 gt2) (.int d2 rt2)), (c3, tup2 (.int g3 gt3) (.int d3 rt3)), (c4, tup2 (.int g4 gt4) (.int d4 rt4)), (c5, tup2 (.int g5 gt5) (.int d5 rt5)), (c6, tup2 (.int g6 gt6) (.int d6 rt6)), (c7, tup2 (.int g7 gt7) (.int d7 rt7)), (c8, tup2 (.int g8 gt8) (.int d8 rt8))] ++ R0, @LT.lt Nat _ p.1 D) → Q (.ref D) { s with heap := h, toks := tk }) :
    wpAny (model PW w) (ktrTop dp un gd cn cs L a ccd cl outer) (eval (.ListComp (.Call (.Name (Str.ofString "_law_out") q1) [.Name (Str.ofString "known") q2, .Name (Str.ofString "mind") q3, .Name (Str.ofString "sign") q4, .Name (Str.ofString "told") q5] [] q6) [⟨.Name (Str.ofString "mind") px, iter, [], 0⟩] scope pos) env) Q E s := by
  have hel : ∀ (x : Int) (tx : Tok), 0 ≤ x → x < 4 → ∀ (I C D ax : Addr) (oI oC : Obj) (ys : List Value) (mC : Str → Option Value) (h : Heap) (tk : Nat) (E : Value → Shared → Prop) (s' : Shared), s'.gens = s.gens → s'.drawn = s.drawn → s'.os = s.os → (∀ p ∈ [(kn, W.listOf #[.int k0 tk0, .int k1 tk1, .int k2 tk2, .int k3 tk3] nk), (td, od), (c0, tup2 (.int g0 gt0) (.int d0 rt0)), (c1, tup2 (.int g1 gt1) (.int d1 rt1)), (c2, tup2 (.int g2 gt2) (.int d2 rt2)), (c3, tup2 (.int g3 gt3) (.int d3 rt3)), (c4, tup2 (.int g4 gt4) (.int d4 rt4)), (c5, tup2 (.int g5 gt5) (.int d5 rt5)), (c6, tup2 (.int g6 gt6) (.int d6 rt6)), (c7, tup2 (.int g7 gt7) (.int d7 rt7)), (c8, tup2 (.int g8 gt8) (.int d8 rt8))] ++ R0, @LT.lt Nat _ p.1 ax) →
      Fr h₀ L h m → NsObj oC mC → mC (Str.ofString "mind") = some (.int x tx) → News h₀ L h ((I, oI) :: (C, oC) :: (D, lst ys) :: (ax, tupA #[.int k0 tka, .int 1 u1, .int 2 u2, .int 3 u3]) :: ([(kn, W.listOf #[.int k0 tk0, .int k1 tk1, .int k2 tk2, .int k3 tk3] nk), (td, od), (c0, tup2 (.int g0 gt0) (.int d0 rt0)), (c1, tup2 (.int g1 gt1) (.int d1 rt1)), (c2, tup2 (.int g2 gt2) (.int d2 rt2)), (c3, tup2 (.int g3 gt3) (.int d3 rt3)), (c4, tup2 (.int g4 gt4) (.int d4 rt4)), (c5, tup2 (.int g5 gt5) (.int d5 rt5)), (c6, tup2 (.int g6 gt6) (.int d6 rt6)), (c7, tup2 (.int g7 gt7) (.int d7 rt7)), (c8, tup2 (.int g8 gt8) (.int d8 rt8))] ++ R0)) → Off3 I C D ((ax, tupA #[.int k0 tka, .int 1 u1, .int 2 u2, .int 3 u3]) :: ([(kn, W.listOf #[.int k0 tk0, .int k1 tk1, .int k2 tk2, .int k3 tk3] nk), (td, od), (c0, tup2 (.int g0 gt0) (.int d0 rt0)), (c1, tup2 (.int g1 gt1) (.int d1 rt1)), (c2, tup2 (.int g2 gt2) (.int d2 rt2)), (c3, tup2 (.int g3 gt3) (.int d3 rt3)), (c4, tup2 (.int g4 gt4) (.int d4 rt4)), (c5, tup2 (.int g5 gt5) (.int d5 rt5)), (c6, tup2 (.int g6 gt6) (.int d6 rt6)), (c7, tup2 (.int g7 gt7) (.int d7 rt7)), (c8, tup2 (.int g8 gt8) (.int d8 rt8))] ++ R0)) →
      wpAny (model PW w) (ktrTop dp un gd cn cs L a ccd cl outer) (eval (.Call (.Name (Str.ofString "_law_out") q1) [.Name (Str.ofString "known") q2, .Name (Str.ofString "mind") q3, .Name (Str.ofString "sign") q4, .Name (Str.ofString "told") q5] [] q6) (compEnvC scope cle C env)) (fun y s1 => ∃ t h' tk', y = .int (outI (kI k0 k1 k2 k3) (fun y => (pick g0 g1 g2 g3 g4 g5 g6 g7 g8 (tg y) c)) (fun y => (pick d0 d1 d2 d3 d4 d5 d6 d7 d8 (tg y) c)) 3 x) t ∧ s1 = { s' with heap := h', toks := tk' } ∧ Fr h₀ L h' m ∧ News h₀ L h' ((I, oI) :: (C, oC) :: (D, lst ys) :: (ax, tupA #[.int k0 tka, .int 1 u1, .int 2 u2, .int 3 u3]) :: ([(kn, W.listOf #[.int k0 tk0, .int k1 tk1, .int k2 tk2, .int k3 tk3] nk), (td, od), (c0, tup2 (.int g0 gt0) (.int d0 rt0)), (c1, tup2 (.int g1 gt1) (.int d1 rt1)), (c2, tup2 (.int g2 gt2) (.int d2 rt2)), (c3, tup2 (.int g3 gt3) (.int d3 rt3)), (c4, tup2 (.int g4 gt4) (.int d4 rt4)), (c5, tup2 (.int g5 gt5) (.int d5 rt5)), (c6, tup2 (.int g6 gt6) (.int d6 rt6)), (c7, tup2 (.int g7 gt7) (.int d7 rt7)), (c8, tup2 (.int g8 gt8) (.int d8 rt8))] ++ R0))) E { s' with heap := h, toks := tk } := by
    intro x tx hx0 hx1 I C D ax oI oC ys mC h tk E s' e1 e2 e3 hax F' hoC em N' off
    have sub1 : ∀ p ∈ (I, oI) :: (C, oC) :: (D, lst ys) :: [(kn, W.listOf #[.int k0 tk0, .int k1 tk1, .int k2 tk2, .int k3 tk3] nk), (td, od), (c0, tup2 (.int g0 gt0) (.int d0 rt0)), (c1, tup2 (.int g1 gt1) (.int d1 rt1)), (c2, tup2 (.int g2 gt2) (.int d2 rt2)), (c3, tup2 (.int g3 gt3) (.int d3 rt3)), (c4, tup2 (.int g4 gt4) (.int d4 rt4)), (c5, tup2 (.int g5 gt5) (.int d5 rt5)), (c6, tup2 (.int g6 gt6) (.int d6 rt6)), (c7, tup2 (.int g7 gt7) (.int d7 rt7)), (c8, tup2 (.int g8 gt8) (.int d8 rt8))] ++ ((ax, tupA #[.int k0 tka, .int 1 u1, .int 2 u2, .int 3 u3]) :: R0), p ∈ (I, oI) :: (C, oC) :: (D, lst ys) :: (ax, tupA #[.int k0 tka, .int 1 u1, .int 2 u2, .int 3 u3]) :: ([(kn, W.listOf #[.int k0 tk0, .int k1 tk1, .int k2 tk2, .int k3 tk3] nk), (td, od), (c0, tup2 (.int g0 gt0) (.int d0 rt0)), (c1, tup2 (.int g1 gt1) (.int d1 rt1)), (c2, tup2 (.int g2 gt2) (.int d2 rt2)), (c3, tup2 (.int g3 gt3) (.int d3 rt3)), (c4, tup2 (.int g4 gt4) (.int d4 rt4)), (c5, tup2 (.int g5 gt5) (.int d5 rt5)), (c6, tup2 (.int g6 gt6) (.int d6 rt6)), (c7, tup2 (.int g7 gt7) (.int d7 rt7)), (c8, tup2 (.int g8 gt8) (.int d8 rt8))] ++ R0) := by
      intro p hp
      rcases List.mem_append.mp hp with hp | hp
      · rcases List.mem_cons.mp hp with rfl | hp
        · exact .head _
        rcases List.mem_cons.mp hp with rfl | hp
        · exact .tail _ (.head _)
        rcases List.mem_cons.mp hp with rfl | hp
        · exact .tail _ (.tail _ (.head _))
        · exact .tail _ (.tail _ (.tail _ (.tail _ (List.mem_append_left _ hp))))
      · rcases List.mem_cons.mp hp with rfl | hp
        · exact .tail _ (.tail _ (.tail _ (.head _)))
        · exact .tail _ (.tail _ (.tail _ (.tail _ (List.mem_append_right _ hp))))
    have sub2 : ∀ p ∈ (I, oI) :: (C, oC) :: (D, lst ys) :: (ax, tupA #[.int k0 tka, .int 1 u1, .int 2 u2, .int 3 u3]) :: ([(kn, W.listOf #[.int k0 tk0, .int k1 tk1, .int k2 tk2, .int k3 tk3] nk), (td, od), (c0, tup2 (.int g0 gt0) (.int d0 rt0)), (c1, tup2 (.int g1 gt1) (.int d1 rt1)), (c2, tup2 (.int g2 gt2) (.int d2 rt2)), (c3, tup2 (.int g3 gt3) (.int d3 rt3)), (c4, tup2 (.int g4 gt4) (.int d4 rt4)), (c5, tup2 (.int g5 gt5) (.int d5 rt5)), (c6, tup2 (.int g6 gt6) (.int d6 rt6)), (c7, tup2 (.int g7 gt7) (.int d7 rt7)), (c8, tup2 (.int g8 gt8) (.int d8 rt8))] ++ R0), p ∈ (I, oI) :: (C, oC) :: (D, lst ys) :: [(kn, W.listOf #[.int k0 tk0, .int k1 tk1, .int k2 tk2, .int k3 tk3] nk), (td, od), (c0, tup2 (.int g0 gt0) (.int d0 rt0)), (c1, tup2 (.int g1 gt1) (.int d1 rt1)), (c2, tup2 (.int g2 gt2) (.int d2 rt2)), (c3, tup2 (.int g3 gt3) (.int d3 rt3)), (c4, tup2 (.int g4 gt4) (.int d4 rt4)), (c5, tup2 (.int g5 gt5) (.int d5 rt5)), (c6, tup2 (.int g6 gt6) (.int d6 rt6)), (c7, tup2 (.int g7 gt7) (.int d7 rt7)), (c8, tup2 (.int g8 gt8) (.int d8 rt8))] ++ ((ax, tupA #[.int k0 tka, .int 1 u1, .int 2 u2, .int 3 u3]) :: R0) := by
      intro p hp
      rcases List.mem_cons.mp hp with rfl | hp
      · exact List.mem_append_left _ (.head _)
      rcases List.mem_cons.mp hp with rfl | hp
      · exact List.mem_append_left _ (.tail _ (.head _))
      rcases List.mem_cons.mp hp with rfl | hp
      · exact List.mem_append_left _ (.tail _ (.tail _ (.head _)))
      rcases List.mem_cons.mp hp with rfl | hp
      · exact List.mem_append_right _ (.head _)
      rcases List.mem_append.mp hp with hp | hp
      · exact List.mem_append_left _ (.tail _ (.tail _ (.tail _ hp)))
      · exact List.mem_append_right _ (.tail _ hp)
    refine wpAny_mono (out_elt (s := { s' with heap := h, toks := tk }) (R0 := (ax, tupA #[.int k0 tka, .int 1 u1, .int 2 u2, .int 3 u3]) :: R0) hx0 hx1 hk0 hk1 hk2 hk3 hg0 hg1 hg2 hg3 hg4 hg5 hg6 hg7 hg8 ho (fun p hp q => ?_) (.tail _ hct) dct (.tail _ hcg) dcg (.tail _ hck) dck hkind kx (f1 C) (f2 C) (f3 C) (f4 C) lk1 lk2 lk3 hge B F' X (cb_drop N' sub1) (Off3.of fun p hp => off.mem p ?_) hoC em T hk hd hu) (fun y s1 h1 => ?_) fun _ _ e => e
    · rcases List.mem_cons.mp hp with rfl | hp
      · obtain ⟨r, hr, e⟩ := List.mem_map.mp q
        exact absurd (hax r (List.mem_append_left _ hr)) (by rw [e]; exact Nat.lt_irrefl _)
      · exact offR p hp q
    · rcases List.mem_append.mp hp with hp | hp
      · exact .tail _ (List.mem_append_left _ hp)
      · rcases List.mem_cons.mp hp with rfl | hp
        · exact .head _
        · exact .tail _ (List.mem_append_right _ hp)
    · obtain ⟨t, h', tk', ey, es, F1, N1⟩ := h1
      exact ⟨t, h', tk', ey, es, F1, cb_drop N1 sub2⟩
  refine comp_tup (h₀ := h₀) (L := L) (m := m) (its := #[.int k0 tka, .int 1 u1, .int 2 u2, .int 3 u3]) (news := [(kn, W.listOf #[.int k0 tk0, .int k1 tk1, .int k2 tk2, .int k3 tk3] nk), (td, od), (c0, tup2 (.int g0 gt0) (.int d0 rt0)), (c1, tup2 (.int g1 gt1) (.int d1 rt1)), (c2, tup2 (.int g2 gt2) (.int d2 rt2)), (c3, tup2 (.int g3 gt3) (.int d3 rt3)), (c4, tup2 (.int g4 gt4) (.int d4 rt4)), (c5, tup2 (.int g5 gt5) (.int d5 rt5)), (c6, tup2 (.int g6 gt6) (.int d6 rt6)), (c7, tup2 (.int g7 gt7) (.int d7 rt7)), (c8, tup2 (.int g8 gt8) (.int d8 rt8))] ++ R0) (S := fun ax nw => (ax, tupA #[.int k0 tka, .int 1 u1, .int 2 u2, .int 3 u3]) ∈ nw) (body := bodyT (.Call (.Name (Str.ofString "_law_out") q1) [.Name (Str.ofString "known") q2, .Name (Str.ofString "mind") q3, .Name (Str.ofString "sign") q4, .Name (Str.ofString "told") q5] [] q6) (.Name (Str.ofString "mind") px) iter scope pos cle env)
    (Fin := fun ax D ys nw => ∃ t0 t1 t2 t3 : Tok, ys = [.int (outI (kI k0 k1 k2 k3) (fun y => (pick g0 g1 g2 g3 g4 g5 g6 g7 g8 (tg y) c)) (fun y => (pick d0 d1 d2 d3 d4 d5 d6 d7 d8 (tg y) c)) 3 k0) t0, .int (outI (kI k0 k1 k2 k3) (fun y => (pick g0 g1 g2 g3 g4 g5 g6 g7 g8 (tg y) c)) (fun y => (pick d0 d1 d2 d3 d4 d5 d6 d7 d8 (tg y) c)) 3 1) t1, .int (outI (kI k0 k1 k2 k3) (fun y => (pick g0 g1 g2 g3 g4 g5 g6 g7 g8 (tg y) c)) (fun y => (pick d0 d1 d2 d3 d4 d5 d6 d7 d8 (tg y) c)) 3 2) t2, .int (outI (kI k0 k1 k2 k3) (fun y => (pick g0 g1 g2 g3 g4 g5 g6 g7 g8 (tg y) c)) (fun y => (pick d0 d1 d2 d3 d4 d5 d6 d7 d8 (tg y) c)) 3 3) t3] ∧ nw = (ax, tupA #[.int k0 tka, .int 1 u1, .int 2 u2, .int 3 u3]) :: ([(kn, W.listOf #[.int k0 tk0, .int k1 tk1, .int k2 tk2, .int k3 tk3] nk), (td, od), (c0, tup2 (.int g0 gt0) (.int d0 rt0)), (c1, tup2 (.int g1 gt1) (.int d1 rt1)), (c2, tup2 (.int g2 gt2) (.int d2 rt2)), (c3, tup2 (.int g3 gt3) (.int d3 rt3)), (c4, tup2 (.int g4 gt4) (.int d4 rt4)), (c5, tup2 (.int g5 gt5) (.int d5 rt5)), (c6, tup2 (.int g6 gt6) (.int d6 rt6)), (c7, tup2 (.int g7 gt7) (.int d7 rt7)), (c8, tup2 (.int g8 gt8) (.int d8 rt8))] ++ R0) ∧ ∀ p ∈ [(kn, W.listOf #[.int k0 tk0, .int k1 tk1, .int k2 tk2, .int k3 tk3] nk), (td, od), (c0, tup2 (.int g0 gt0) (.int d0 rt0)), (c1, tup2 (.int g1 gt1) (.int d1 rt1)), (c2, tup2 (.int g2 gt2) (.int d2 rt2)), (c3, tup2 (.int g3 gt3) (.int d3 rt3)), (c4, tup2 (.int g4 gt4) (.int d4 rt4)), (c5, tup2 (.int g5 gt5) (.int d5 rt5)), (c6, tup2 (.int g6 gt6) (.int d6 rt6)), (c7, tup2 (.int g7 gt7) (.int d7 rt7)), (c8, tup2 (.int g8 gt8) (.int d8 rt8))] ++ R0, @LT.lt Nat _ p.1 D)
    (bodyT_eq _ _ _ scope pos cle env) rfl hclos hcell hkind hnames (fun _ => .head _) (fun _ _ h => h) (fun ax I C D s' hax hI2 hID hDC e1 e2 e3 => ?_) (fun ax D h tk ys nw F' N' off' _ hf => ?_) hs hev
  · exact keep_turn (k := 3) (v := .int k0 tka) (f := fun t => .int (outI (kI k0 k1 k2 k3) (fun y => (pick g0 g1 g2 g3 g4 g5 g6 g7 g8 (tg y) c)) (fun y => (pick d0 d1 d2 d3 d4 d5 d6 d7 d8 (tg y) c)) 3 k0) t) hkind kx hID hDC (by show (0 : Nat) ≤ 100; decide) (fun u hu => (Option.some.inj hu).symm) (fun oI oC mC h tk E F' hoC em N' off => hel k0 tka hk0.1 hk0.2 I C D ax oI oC _ mC h tk E s' e1 e2 e3 hax F' hoC em N' off) (fun t0 => keep_turn (k := 2) (v := .int 1 u1) (f := fun t => .int (outI (kI k0 k1 k2 k3) (fun y => (pick g0 g1 g2 g3 g4 g5 g6 g7 g8 (tg y) c)) (fun y => (pick d0 d1 d2 d3 d4 d5 d6 d7 d8 (tg y) c)) 3 1) t) hkind kx hID hDC (by show (1 : Nat) ≤ 100; decide) (fun u hu => (Option.some.inj hu).symm) (fun oI oC mC h tk E F' hoC em N' off => hel 1 u1 (by decide) (by decide) I C D ax oI oC _ mC h tk E s' e1 e2 e3 hax F' hoC em N' off) (fun t1 => keep_turn (k := 1) (v := .int 2 u2) (f := fun t => .int (outI (kI k0 k1 k2 k3) (fun y => (pick g0 g1 g2 g3 g4 g5 g6 g7 g8 (tg y) c)) (fun y => (pick d0 d1 d2 d3 d4 d5 d6 d7 d8 (tg y) c)) 3 2) t) hkind kx hID hDC (by show (2 : Nat) ≤ 100; decide) (fun u hu => (Option.some.inj hu).symm) (fun oI oC mC h tk E F' hoC em N' off => hel 2 u2 (by decide) (by decide) I C D ax oI oC _ mC h tk E s' e1 e2 e3 hax F' hoC em N' off) (fun t2 => keep_turn (k := 0) (v := .int 3 u3) (f := fun t => .int (outI (kI k0 k1 k2 k3) (fun y => (pick g0 g1 g2 g3 g4 g5 g6 g7 g8 (tg y) c)) (fun y => (pick d0 d1 d2 d3 d4 d5 d6 d7 d8 (tg y) c)) 3 3) t) hkind kx hID hDC (by show (3 : Nat) ≤ 100; decide) (fun u hu => (Option.some.inj hu).symm) (fun oI oC mC h tk E F' hoC em N' off => hel 3 u3 (by decide) (by decide) I C D ax oI oC _ mC h tk E s' e1 e2 e3 hax F' hoC em N' off) (fun t3 => ⟨t0, t1, t2, t3, rfl, rfl, fun p hp => Nat.lt_trans (hI2 p (.tail _ hp)) hID⟩))))
  · obtain ⟨t0, t1, t2, t3, rfl, rfl, hlt⟩ := hf
    refine hret D t0 t1 t2 t3 h tk F' (cb_drop N' fun p hp => ?_) hlt
    rcases List.mem_cons.mp hp with rfl | hp
    · exact .head _
    · exact .tail _ (.tail _ hp)
end Mine
end

section
open PySem PySem.W PyProof.Rows PySem.Spec PySem.Calls
open PyProof.Rows.LCg (NsObj Off3 Off1 lst ns_obj fr_but news_but lst_snoc)
set_option Elab.async false
set_option maxRecDepth 100000
namespace Mine
theorem kwn_OG : True := by
  k_with_none
  trivial
theorem fillOG : RW = RW ∧ KF = KF := by
  k_fill
  exact ⟨rfl, rfl⟩
set_option maxHeartbeats 0
set_option rowWalk.seconds 0
theorem known_tup {w : World} {A : Around} {E : Value → Shared → Prop} {s : Shared} {h₀ : Heap} {L kn ck : Addr} {ock : Obj} {m : Str → Option Value} {k0 k1 k2 k3 : Int} {y0 y1 y2 y3 : Tok} {nk : Nat} {all : List (Addr × Obj)} {cn : Str} {cs : Scope} {a : Addr} {ccd : Value} {cl : List (Str × Addr)} {p1 p2 p3 p4 p5 p6 pp : Pos}
    (F : Fr h₀ L s.heap m) (N : News h₀ L s.heap all) (hc : cl.lookup (Str.ofString "known") = some ck) (hck : (ck, ock) ∈ all) (dck : ock.data = .cell (some (.ref kn))) (hkn : (kn, W.listOf #[.int k0 y0, .int k1 y1, .int k2 y2, .int k3 y3] nk) ∈ all)
    (hk : cs.kind = .function := by rfl) (hx : (envX cn cs L a ccd cl).kindOf (Str.ofString "known") = some .cell := by rfl) :
    wpAny (model PW w) A (eval (.Tuple [.Subscript (.Name (Str.ofString "known") p1) (.Constant (.int 0) 0 p2) p3, .Constant (.int 1) 0 p4, .Constant (.int 2) 0 p5, .Constant (.int 3) 0 p6] 0 pp) (envX cn cs L a ccd cl)) (fun v s' => ∃ ax h1 tkx, v = .ref ax ∧ s' = { s with heap := h1, toks := tkx } ∧ Fr h₀ L h1 m ∧ News h₀ L h1 ((ax, tupA #[.int k0 y0, .int 1 (s.toks + 1), .int 2 (s.toks + 1 + 1), .int 3 (s.toks + 1 + 1 + 1)]) :: all) ∧ (∀ p ∈ all, @LT.lt Nat _ p.1 ax)) E s := by
  refine Tuple_ ?_
  refine spliced_more (Subscript_ ?_)
  refine nameX_C N hc hck dck ?_ hk hx (by decide)
  refine wpAny_Constant_int ?_
  have hl : s.heap.IsList kn #[.int k0 y0, .int k1 y1, .int k2 y2, .int k3 y3] := ⟨_, (N _ hkn).1, rfl, _, rfl⟩
  refine tail_any (s := { s with toks := s.toks + 1 }) (Heap.IsList.typeIs (s := { s with toks := s.toks + 1 }) hl) slot_list_getitem.lookup (wpAny_getItem_list (s := { s with toks := s.toks + 1 }) hl (by decide) (by decide) rfl ?_) (by with_unfolding_all rfl)
  refine spliced_more (wpAny_Constant_int ?_)
  refine spliced_more (wpAny_Constant_int ?_)
  refine spliced_more (wpAny_Constant_int ?_)
  refine spliced_none ?_
  refine newTuple_N F N (fun h' F' N' => ⟨_, h', _, rfl, rfl, F', N', fun p hp => Heap.lt_size (N p hp).1⟩) (Nat.le_of_ble_eq_true rfl)
noncomputable def Asc : Nat → List Nat → Nat → Prop
  | a, [], d => a < d
  | a, b :: l, d => a < b ∧ Asc b l d
theorem asc_mem {x d : Nat} : ∀ {l : List Nat} {a : Nat}, Asc a l d → x ∈ a :: l → a ≤ x ∧ x < d
  | [], _, h, m => by rw [List.mem_singleton.mp m]; exact ⟨Nat.le_refl _, h⟩
  | _ :: _, _, h, m => by
    rcases List.mem_cons.mp m with e | m
    · have := asc_mem h.2 (.head _)
      exact ⟨Nat.le_of_eq e.symm, e ▸ Nat.lt_trans h.1 this.2⟩
    · have := asc_mem h.2 m
      exact ⟨Nat.le_trans (Nat.le_of_lt h.1) this.1, this.2⟩
theorem asc_off {x kn td c : Nat} {l : List Nat} (h : Asc c l td) (hk : td < kn) (z1 : x < c ∨ td < x) (z2 : x < kn) (q : x ∈ kn :: td :: c :: l) : False := by
  rcases List.mem_cons.mp q with e | q
  · exact Nat.ne_of_lt z2 e
  have hc := (asc_mem h (.head _)).2
  rcases List.mem_cons.mp q with e | q
  · rcases z1 with z | z
    · exact Nat.lt_irrefl _ (Nat.lt_trans hc (e ▸ z))
    · exact Nat.ne_of_gt z e
  · have := asc_mem h q
    rcases z1 with z | z
    · exact Nat.not_le_of_lt z this.1
    · exact Nat.lt_asymm z this.2
theorem out_compR {w : World} {kn td : Addr} {k0 k1 k2 k3 : Int} {tk0 tk1 tk2 tk3 : Tok} {nk : Nat} {od : Obj} {c0 c1 c2 c3 c4 c5 c6 c7 c8 : Addr} {g0 g1 g2 g3 g4 g5 g6 g7 g8 d0 d1 d2 d3 d4 d5 d6 d7 d8 : Int} {gt0 gt1 gt2 gt3 gt4 gt5 gt6 gt7 gt8 rt0 rt1 rt2 rt3 rt4 rt5 rt6 rt7 rt8 : Tok} {mean : ExcName → Option Value} {mg mb : Str → Option Value} {dp un : Nat} {gd : Option (List Code)} {cn : Str} {cs : Scope} {a : Addr} {ccd : Value} {cl : List (Str × Addr)} {outer : List Env} {A₀ : Around} {base h₀ : Heap} {L : Addr} {m : Str → Option Value} {s : Shared} {Q E : Value → Shared → Prop} {c : Fin 3} {ts : Tok} {all a1 a2 a3 a4 a5 a6 a7 a8 a9 a10 R0 : List (Addr × Obj)} {ct cg ck : Addr} {oct ocg ock : Obj} {scope : Scope} {cle : List (Str × Addr)} {env : Env} {iter : PySem.Expr} {pos px q1 q2 q3 q4 q5 q6 : Pos}
    (hk0 : 0 ≤ k0 ∧ k0 < 4) (hk1 : 0 ≤ k1 ∧ k1 < 4) (hk2 : 0 ≤ k2 ∧ k2 < 4) (hk3 : 0 ≤ k3 ∧ k3 < 4) (hg0 : 1 ≤ g0 ∧ g0 < 4) (hg1 : 1 ≤ g1 ∧ g1 < 4) (hg2 : 1 ≤ g2 ∧ g2 < 4) (hg3 : 1 ≤ g3 ∧ g3 < 4) (hg4 : 1 ≤ g4 ∧ g4 < 4) (hg5 : 1 ≤ g5 ∧ g5 < 4) (hg6 : 1 ≤ g6 ∧ g6 < 4) (hg7 : 1 ≤ g7 ∧ g7 < 4) (hg8 : 1 ≤ g8 ∧ g8 < 4)
    (ho : od.IsDictOf (strKind PW w) [(Str.ofString "pf", Value.ref c0), (Str.ofString "pi", Value.ref c1), (Str.ofString "qf", Value.ref c2), (Str.ofString "qi", Value.ref c3), (Str.ofString "rf", Value.ref c4), (Str.ofString "ri", Value.ref c5), (Str.ofString "p.", Value.ref c6), (Str.ofString "q.", Value.ref c7), (Str.ofString "r.", Value.ref c8)]) (R1 : Rem (kn, W.listOf #[.int k0 tk0, .int k1 tk1, .int k2 tk2, .int k3 tk3] nk) all a1) (R2 : Rem (td, od) a1 a2) (R3 : Rem (c0, tup2 (.int g0 gt0) (.int d0 rt0)) a2 a3) (R4 : Rem (c1, tup2 (.int g1 gt1) (.int d1 rt1)) a3 a4) (R5 : Rem (c2, tup2 (.int g2 gt2) (.int d2 rt2)) a4 a5) (R6 : Rem (c3, tup2 (.int g3 gt3) (.int d3 rt3)) a5 a6) (R7 : Rem (c4, tup2 (.int g4 gt4) (.int d4 rt4)) a6 a7) (R8 : Rem (c5, tup2 (.int g5 gt5) (.int d5 rt5)) a7 a8) (R9 : Rem (c6, tup2 (.int g6 gt6) (.int d6 rt6)) a8 a9) (R10 : Rem (c7, tup2 (.int g7 gt7) (.int d7 rt7)) a9 a10) (R11 : Rem (c8, tup2 (.int g8 gt8) (.int d8 rt8)) a10 R0) (ord : @LT.lt Nat _ c0 c1 ∧ @LT.lt Nat _ c1 c2 ∧ @LT.lt Nat _ c2 c3 ∧ @LT.lt Nat _ c3 c4 ∧ @LT.lt Nat _ c4 c5 ∧ @LT.lt Nat _ c5 c6 ∧ @LT.lt Nat _ c6 c7 ∧ @LT.lt Nat _ c7 c8 ∧ @LT.lt Nat _ c8 td ∧ @LT.lt Nat _ td kn) (offR : ∀ p ∈ R0, (@LT.lt Nat _ p.1 c0 ∨ @LT.lt Nat _ td p.1) ∧ @LT.lt Nat _ p.1 kn)
    (hct : (ct, oct) ∈ R0) (dct : oct.data = .cell (some (.ref td))) (hcg : (cg, ocg) ∈ R0) (dcg : ocg.data = .cell (some (.str ⟨#[sC c]⟩ ts))) (hck : (ck, ock) ∈ R0) (dck : ock.data = .cell (some (.ref kn)))
    (hclos : closureFor scope env = pure cle) (hcell : ∀ y ∈ scope.names, y.2 ≠ .cell) (hkind : scope.kind = .function) (hnames : ∀ y ∈ scope.names, y.2 = .local → scope.names.lookup y.1 = some .local)
    (kx : scope.names.lookup (Str.ofString "mind") = some .local) (f1 : ∀ C, (compEnvC scope cle C env).kindOf (Str.ofString "known") = some .cell) (f2 : ∀ C, (compEnvC scope cle C env).kindOf (Str.ofString "sign") = some .cell) (f3 : ∀ C, (compEnvC scope cle C env).kindOf (Str.ofString "told") = some .cell) (f4 : ∀ C, (compEnvC scope cle C env).kindOf (Str.ofString "_law_out") = some .globalImplicit)
    (lk1 : cle.lookup (Str.ofString "known") = some ck) (lk2 : cle.lookup (Str.ofString "sign") = some cg) (lk3 : cle.lookup (Str.ofString "told") = some ct) (hge : env.globals = mainGlobals)
    (B : Below A₀ base outer h₀) (X : (KF w.params).In h₀) (T : Top topProg LN mean mg mb h₀) (hk : cs.kind = .function) (hd : dp + 4 < recursionLimit) (hu : un + 32 < cLine)
    (N : News h₀ L s.heap all) (hev : wpAny (model PW w) (ktrTop dp un gd cn cs L a ccd cl outer) (eval iter env) (fun v s' => ∃ ax h1 tkx, v = .ref ax ∧ s' = { s with heap := h1, toks := tkx } ∧ Fr h₀ L h1 m ∧ News h₀ L h1 ((ax, tupA #[.int k0 tk0, .int 1 (s.toks + 1), .int 2 (s.toks + 1 + 1), .int 3 (s.toks + 1 + 1 + 1)]) :: all) ∧ (∀ p ∈ all, @LT.lt Nat _ p.1 ax)) E s)
    (hs : ∀ x, foldedSetIterable iter env x = pure x)
    (hret : ∀ D t0 t1 t2 t3 h tk, Fr h₀ L h m → News h₀ L h ((D, W.listOf #[.int (outI (kI k0 k1 k2 k3) (fun y => (pick g0 g1 g2 g3 g4 g5 g6 g7 g8 (tg y) c)) (fun y => (pick d0 d1 d2 d3 d4 d5 d6 d7 d8 (tg y) c)) 3 k0) t0, .int (outI (kI k0 k1 k2 k3) (fun y => (pick g0 g1 g2 g3 g4 g5 g6 g7 g8 (tg y) c)) (fun y => (pick d0 d1 d2 d3 d4 d5 d6 d7 d8 (tg y) c)) 3 1) t1, .int (outI (kI k0 k1 k2 k3) (fun y => (pick g0 g1 g2 g3 g4 g5 g6 g7 g8 (tg y) c)) (fun y => (pick d0 d1 d2 d3 d4 d5 d6 d7 d8 (tg y) c)) 3 2) t2, .int (outI (kI k0 k1 k2 k3) (fun y => (pick g0 g1 g2 g3 g4 g5 g6 g7 g8 (tg y) c)) (fun y => (pick d0 d1 d2 d3 d4 d5 d6 d7 d8 (tg y) c)) 3 3) t3] 4) :: ([(kn, W.listOf #[.int k0 tk0, .int k1 tk1, .int k2 tk2, .int k3 tk3] nk), (td, od), (c0, tup2 (.int g0 gt0) (.int d0 rt0)), (c1, tup2 (.int g1 gt1) (.int d1 rt1)), (c2, tup2 (.int g2 gt2) (.int d2 rt2)), (c3, tup2 (.int g3 gt3) (.int d3 rt3)), (c4, tup2 (.int g4 gt4) (.int d4 rt4)), (c5, tup2 (.int g5 gt5) (.int d5 rt5)), (c6, tup2 (.int g6 gt6) (.int d6 rt6)), (c7, tup2 (.int g7 gt7) (.int d7 rt7)), (c8, tup2 (.int g8 gt8) (.int d8 rt8))] ++ R0)) → (∀ p ∈ [(kn, W.listOf #[.int k0 tk0, .int k1 tk1, .int k2 tk2, .int k3 tk3] nk), (td, od), (c0, tup2 (.int g0 gt0) (.int d0 rt0)), (c1, tup2 (.int g1 gt1) (.int d1 rt1)), (c2, tup2 (.int g2 gt2) (.int d2 rt2)), (c3, tup2 (.int g3 gt3) (.int d3 rt3)), (c4, tup2 (.int g4 gt4) (.int d4 rt4)), (c5, tup2 (.int g5 gt5) (.int d5 rt5)), (c6, tup2 (.int g6 gt6) (.int d6 rt6)), (c7, tup2 (.int g7 gt7) (.int d7 rt7)), (c8, tup2 (.int g8 gt8) (.int d8 rt8))] ++ R0, @LT.lt Nat _ p.1 D) → Q (.ref D) { s with heap := h, toks := tk }) :
    wpAny (model PW w) (ktrTop dp un gd cn cs L a ccd cl outer) (eval (.ListComp (.Call (.Name (Str.ofString "_law_out") q1) [.Name (Str.ofString "known") q2, .Name (Str.ofString "mind") q3, .Name (Str.ofString "sign") q4, .Name (Str.ofString "told") q5] [] q6) [⟨.Name (Str.ofString "mind") px, iter, [], 0⟩] scope pos) env) Q E s := by
  clear N
  have sub : ∀ p ∈ [(kn, W.listOf #[.int k0 tk0, .int k1 tk1, .int k2 tk2, .int k3 tk3] nk), (td, od), (c0, tup2 (.int g0 gt0) (.int d0 rt0)), (c1, tup2 (.int g1 gt1) (.int d1 rt1)), (c2, tup2 (.int g2 gt2) (.int d2 rt2)), (c3, tup2 (.int g3 gt3) (.int d3 rt3)), (c4, tup2 (.int g4 gt4) (.int d4 rt4)), (c5, tup2 (.int g5 gt5) (.int d5 rt5)), (c6, tup2 (.int g6 gt6) (.int d6 rt6)), (c7, tup2 (.int g7 gt7) (.int d7 rt7)), (c8, tup2 (.int g8 gt8) (.int d8 rt8))] ++ R0, p ∈ all := by
    intro p hp
    rcases List.mem_append.mp hp with hp | hp
    · simp only [List.mem_cons, List.not_mem_nil, or_false] at hp
      rcases hp with rfl | rfl | rfl | rfl | rfl | rfl | rfl | rfl | rfl | rfl | rfl
      · exact R1.mem
      · exact (R1.sub _ R2.mem)
      · exact (R1.sub _ (R2.sub _ R3.mem))
      · exact (R1.sub _ (R2.sub _ (R3.sub _ R4.mem)))
      · exact (R1.sub _ (R2.sub _ (R3.sub _ (R4.sub _ R5.mem))))
      · exact (R1.sub _ (R2.sub _ (R3.sub _ (R4.sub _ (R5.sub _ R6.mem)))))
      · exact (R1.sub _ (R2.sub _ (R3.sub _ (R4.sub _ (R5.sub _ (R6.sub _ R7.mem))))))
      · exact (R1.sub _ (R2.sub _ (R3.sub _ (R4.sub _ (R5.sub _ (R6.sub _ (R7.sub _ R8.mem)))))))
      · exact (R1.sub _ (R2.sub _ (R3.sub _ (R4.sub _ (R5.sub _ (R6.sub _ (R7.sub _ (R8.sub _ R9.mem))))))))
      · exact (R1.sub _ (R2.sub _ (R3.sub _ (R4.sub _ (R5.sub _ (R6.sub _ (R7.sub _ (R8.sub _ (R9.sub _ R10.mem)))))))))
      · exact (R1.sub _ (R2.sub _ (R3.sub _ (R4.sub _ (R5.sub _ (R6.sub _ (R7.sub _ (R8.sub _ (R9.sub _ (R10.sub _ R11.mem))))))))))
    · exact (R1.sub _ (R2.sub _ (R3.sub _ (R4.sub _ (R5.sub _ (R6.sub _ (R7.sub _ (R8.sub _ (R9.sub _ (R10.sub _ (R11.sub _ hp)))))))))))
  refine out_comp (tka := tk0) (u1 := s.toks + 1) (u2 := s.toks + 1 + 1) (u3 := s.toks + 1 + 1 + 1) hk0 hk1 hk2 hk3 hg0 hg1 hg2 hg3 hg4 hg5 hg6 hg7 hg8 ho (fun p hp q => ?_) hct dct hcg dcg hck dck hclos hcell hkind hnames kx f1 f2 f3 f4 lk1 lk2 lk3 hge B X T hk hd hu (wpAny_mono hev (fun v s' h => ?_) fun _ _ e => e) hs hret
  · obtain ⟨z1, z2⟩ := offR p hp
    obtain ⟨o1, o2, o3, o4, o5, o6, o7, o8, o9, o10⟩ := ord
    exact asc_off (l := [c1, c2, c3, c4, c5, c6, c7, c8]) ⟨o1, o2, o3, o4, o5, o6, o7, o8, o9⟩ o10 z1 z2 q
  · obtain ⟨ax, h1, tkx, e1, e2, F1, N1, l1⟩ := h
    refine ⟨ax, h1, tkx, e1, e2, F1, cb_drop N1 (fun p hp => ?_), fun p hp => l1 p (sub p hp)⟩
    rcases List.mem_cons.mp hp with rfl | hp
    · exact .head _
    · exact .tail _ (sub p hp)
end Mine
end

section
open PySem PySem.W PyProof.Rows PySem.Spec PySem.Calls
set_option Elab.async false
set_option maxRecDepth 100000
namespace Mine
theorem kwn_DX : True := by
  k_with_none
  trivial
theorem d2_first {w : World} {l : Addr} {k0 k1 k2 k3 : Int} {t0 t1 t2 t3 u : Tok} {n : Nat} {mean : ExcName → Option Value} {mg mb : Str → Option Value} {dp un : Nat} {gd : Option (List Code)} {cn : Str} {cs : Scope} {a : Addr} {ccd : Value} {cl : List (Str × Addr)} {outer : List Env} {A₀ : Around} {base h₀ : Heap} {L : Addr} {m : Str → Option Value} {s : Shared} {Q E : Value → Shared → Prop} {all r1 rest : List (Addr × Obj)}
    (B : Below A₀ base outer h₀) (F : Fr h₀ L s.heap m) (X : (KF w.params).In h₀) (hl : @LT.lt Nat _ 111 l) (NA : News h₀ L s.heap all) (R1 : Rem (l, W.listOf #[.int k0 t0, .int k1 t1, .int k2 t2, .int k3 t3] n) all r1) (R2 : Rem (111, tabObj #[]) r1 rest) (o : OffW [(l, W.listOf #[.int k0 t0, .int k1 t1, .int k2 t2, .int k3 t3] n), (111, tabObj #[])] rest)
    (g0 : 0 ≤ k0) (g1 : 0 ≤ k1) (g2 : 0 ≤ k2) (g3 : 0 ≤ k3) (e0 : k0 < 4) (e1 : k1 < 4) (e2 : k2 < 4) (e3 : k3 < 4) (T : Top topProg LN mean mg mb h₀) (hk : cs.kind = .function) (hd : dp + 6 < recursionLimit) (hu : un + 48 < cLine)
    (hret : ∀ t h' tk' c' oc, CodeObj oc qD → Fr h₀ L h' m → News h₀ L h' ((111, tabObj (tabOf 34 4 c')) :: (c', oc) :: rest) → (∀ p ∈ rest, @LT.lt Nat _ p.1 c') → @LT.lt Nat _ 111 c' → Q (.int (k0 + 4 * k1 + 16 * k2 + 64 * k3) t) { s with heap := h', toks := tk' }) :
    wpAny (model PW w) (ktrTop dp un gd cn cs L a ccd cl outer) (call (.ref 116) [.ref l, .int 2 u]) Q E s := by
  have sub : ∀ p ∈ [(l, W.listOf #[.int k0 t0, .int k1 t1, .int k2 t2, .int k3 t3] n), ((111 : Addr), tabObj #[])], p ∈ all := SubL.mem ⟨R1.mem, R1.sub _ R2.mem, trivial⟩
  have subR : ∀ p ∈ rest, p ∈ all := fun p hp => R1.sub _ (R2.sub _ hp)
  exact d2iF B F X hl (cb_drop NA sub) (cb_drop NA subR) (off_of NA subR sub o) g0 g1 g2 g3 e0 e1 e2 e3 T hk hd hu fun t h' tk' c' oc co F' N1 N2 l1 l2 => hret t h' tk' c' oc co F' (news_app N1 N2) l1 l2
theorem d2_all {w : World} {c' : Addr} {l : Addr} {k0 k1 k2 k3 : Int} {t0 t1 t2 t3 u : Tok} {n : Nat} {mean : ExcName → Option Value} {mg mb : Str → Option Value} {dp un : Nat} {gd : Option (List Code)} {cn : Str} {cs : Scope} {a : Addr} {ccd : Value} {cl : List (Str × Addr)} {outer : List Env} {A₀ : Around} {base h₀ : Heap} {L : Addr} {m : Str → Option Value} {s : Shared} {Q E : Value → Shared → Prop} {all r1 rest : List (Addr × Obj)}
    (B : Below A₀ base outer h₀) (F : Fr h₀ L s.heap m) (X : (KF w.params).In h₀) (hl : @LT.lt Nat _ 111 l) (NA : News h₀ L s.heap all) (R1 : Rem (l, W.listOf #[.int k0 t0, .int k1 t1, .int k2 t2, .int k3 t3] n) all r1) (R2 : Rem (111, tabObj (tabOf 34 4 c')) r1 rest) (o : OffW [(l, W.listOf #[.int k0 t0, .int k1 t1, .int k2 t2, .int k3 t3] n), (111, tabObj (tabOf 34 4 c'))] rest)
    (g0 : 0 ≤ k0) (g1 : 0 ≤ k1) (g2 : 0 ≤ k2) (g3 : 0 ≤ k3) (e0 : k0 < 4) (e1 : k1 < 4) (e2 : k2 < 4) (e3 : k3 < 4) (hc : s.heap.CodeRec (.ref c') qD) (hcn : @LT.lt Nat _ 111 c') (hcl : c' ≠ l) (T : Top topProg LN mean mg mb h₀) (hk : cs.kind = .function) (hd : dp + 6 < recursionLimit) (hu : un + 48 < cLine)
    (hret : ∀ t h' tk', Fr h₀ L h' m → News h₀ L h' ((111, tabObj (tabOf 34 4 c')) :: rest) → Q (.int (k0 + 4 * k1 + 16 * k2 + 64 * k3) t) { s with heap := h', toks := tk' }) :
    wpAny (model PW w) (ktrTop dp un gd cn cs L a ccd cl outer) (call (.ref 116) [.ref l, .int 2 u]) Q E s := by
  have sub : ∀ p ∈ [(l, W.listOf #[.int k0 t0, .int k1 t1, .int k2 t2, .int k3 t3] n), ((111 : Addr), tabObj (tabOf 34 4 c'))], p ∈ all := SubL.mem ⟨R1.mem, R1.sub _ R2.mem, trivial⟩
  have subR : ∀ p ∈ rest, p ∈ all := fun p hp => R1.sub _ (R2.sub _ hp)
  exact d2iN B F X hl (cb_drop NA sub) (cb_drop NA subR) (off_of NA subR sub o) g0 g1 g2 g3 e0 e1 e2 e3 hc hcn hcl T hk hd hu fun t h' tk' F' N1 N2 => hret t h' tk' F' (news_app N1 N2)
/-- known, written out -/
theorem ints4 {ws : List Value} {a : Int} (h0 : 0 ≤ a) (h1 : a < 256) (h : IntsAre ws ((digs a ++ [0, 0, 0, 0]).take 4)) : ∃ t0 t1 t2 t3, ws = [.int (a % 4) t0, .int (a / 4 % 4) t1, .int (a / 16 % 4) t2, .int (a / 64 % 4) t3] := by
  rw [digs_take h0 h1] at h
  obtain _ | ⟨_, t0, h⟩ := h
  obtain _ | ⟨_, t1, h⟩ := h
  obtain _ | ⟨_, t2, h⟩ := h
  obtain _ | ⟨_, t3, h⟩ := h
  cases h
  exact ⟨t0, t1, t2, t3, rfl⟩
end Mine
end

section
open PySem PySem.W PyProof.Rows PySem.Spec PySem.Calls
set_option Elab.async false
set_option maxRecDepth 100000
namespace Mine
theorem kwn_NU : True := by
  k_with_none
  trivial
theorem code_at {h₀ h : Heap} {L c : Addr} {oc : Obj} {news : List (Addr × Obj)} {q : Str} (N : News h₀ L h news) (hm : (c, oc) ∈ news) (x : CodeObj oc q) : h.CodeRec (.ref c) q := by
  obtain ⟨vs, t, hd, hv⟩ := x
  exact codeRec_news N hm hd hv
theorem dig_u {w : World} {c1 : Addr} {oc1 : Obj} {qt : Array Value} {ai : Int} (h0 : 0 ≤ ai) (h1 : ai < 256) (hq : (qt = #[] ∧ ai = 1) ∨ (qt = tabOf 19 4 c1 ∧ CodeObj oc1 qI)) (hne : ¬ @Eq Nat c1 104) {t u : Tok} {mean : ExcName → Option Value} {mg mb : Str → Option Value} {dp un : Nat} {gd : Option (List Code)} {cn : Str} {cs : Scope} {a : Addr} {ccd : Value} {cl : List (Str × Addr)} {outer : List Env} {A₀ : Around} {base h₀ : Heap} {L : Addr} {m : Str → Option Value} {s : Shared} {Q E : Value → Shared → Prop} {all rest : List (Addr × Obj)}
    (B : Below A₀ base outer h₀) (F : Fr h₀ L s.heap m) (X : (KF w.params).In h₀) (NA : News h₀ L s.heap all) (R1 : Rem (104, tabObj qt) all rest) (hm : (c1, oc1) ∈ rest) (o : OffW [(104, tabObj qt)] rest)
    (T : Top topProg LN mean mg mb h₀) (hk : cs.kind = .function) (hd : dp + 6 < recursionLimit) (hu : un + 48 < cLine)
    (hret : ∀ l vs n h' tk' c' oc, IntsAre vs (digs ai) → CodeObj oc qI → Fr h₀ L h' m → News h₀ L h' ((l, W.listOf vs.toArray n) :: (104, tabObj (tabOf 19 4 c')) :: (c', oc) :: rest) → (∀ p ∈ (104, tabObj (tabOf 19 4 c')) :: rest, p.1 < l) → (@LT.lt Nat _ l c' ∨ @Eq Nat c' c1) → Q (.ref l) { s with heap := h', toks := tk' }) :
    wpAny (model PW w) (ktrTop dp un gd cn cs L a ccd cl outer) (call (.ref 109) [.int ai t, .int 2 u]) Q E s := by
  rcases hq with ⟨rfl, rfl⟩ | ⟨rfl, co⟩
  · exact dig_first (by decide) (by decide) B F X NA R1 o T hk hd hu fun l vs n h' tk' c' oc hi co F' N' l1 l2 => hret l vs n h' tk' c' oc hi co F' N' l1 (.inl l2)
  · refine dig_all h0 h1 B F X NA R1 o (code_at NA (R1.sub _ hm) co) hne T hk hd hu fun l vs n h' tk' hi F' N' l1 => hret l vs n h' tk' c1 oc1 hi co F' (fun p hp => ?_) l1 (.inr rfl)
    rcases List.mem_cons.mp hp with rfl | hp
    · exact N' _ (.head _)
    rcases List.mem_cons.mp hp with rfl | hp
    · exact N' _ (.tail _ (.head _))
    rcases List.mem_cons.mp hp with rfl | hp
    · exact N' _ (.tail _ (.tail _ hm))
    · exact N' _ (.tail _ (.tail _ hp))
theorem d2_u {w : World} {c2 l : Addr} {oc2 : Obj} {qt : Array Value} {k0 k1 k2 k3 : Int} {t0 t1 t2 t3 u : Tok} {n : Nat} (hq : qt = #[] ∨ (qt = tabOf 34 4 c2 ∧ CodeObj oc2 qD)) (hcn : @LT.lt Nat _ 111 c2) (hcl : ¬ @Eq Nat c2 l) {mean : ExcName → Option Value} {mg mb : Str → Option Value} {dp un : Nat} {gd : Option (List Code)} {cn : Str} {cs : Scope} {a : Addr} {ccd : Value} {cl : List (Str × Addr)} {outer : List Env} {A₀ : Around} {base h₀ : Heap} {L : Addr} {m : Str → Option Value} {s : Shared} {Q E : Value → Shared → Prop} {all r1 rest : List (Addr × Obj)}
    (B : Below A₀ base outer h₀) (F : Fr h₀ L s.heap m) (X : (KF w.params).In h₀) (hl : @LT.lt Nat _ 111 l) (NA : News h₀ L s.heap all) (R1 : Rem (l, W.listOf #[.int k0 t0, .int k1 t1, .int k2 t2, .int k3 t3] n) all r1) (R2 : Rem (111, tabObj qt) r1 rest) (hm : (c2, oc2) ∈ rest) (o : OffW [(l, W.listOf #[.int k0 t0, .int k1 t1, .int k2 t2, .int k3 t3] n), (111, tabObj qt)] rest)
    (g0 : 0 ≤ k0) (g1 : 0 ≤ k1) (g2 : 0 ≤ k2) (g3 : 0 ≤ k3) (e0 : k0 < 4) (e1 : k1 < 4) (e2 : k2 < 4) (e3 : k3 < 4) (T : Top topProg LN mean mg mb h₀) (hk : cs.kind = .function) (hd : dp + 6 < recursionLimit) (hu : un + 48 < cLine)
    (hret : ∀ t h' tk' c' oc, CodeObj oc qD → Fr h₀ L h' m → News h₀ L h' ((111, tabObj (tabOf 34 4 c')) :: (c', oc) :: rest) → @LT.lt Nat _ 111 c' → ((∀ p ∈ rest, @LT.lt Nat _ p.1 c') ∨ @Eq Nat c' c2) → Q (.int (k0 + 4 * k1 + 16 * k2 + 64 * k3) t) { s with heap := h', toks := tk' }) :
    wpAny (model PW w) (ktrTop dp un gd cn cs L a ccd cl outer) (call (.ref 116) [.ref l, .int 2 u]) Q E s := by
  rcases hq with rfl | ⟨rfl, co⟩
  · exact d2_first B F X hl NA R1 R2 o g0 g1 g2 g3 e0 e1 e2 e3 T hk hd hu fun t h' tk' c' oc co F' N' l1 l2 => hret t h' tk' c' oc co F' N' l2 (.inl l1)
  · refine d2_all B F X hl NA R1 R2 o g0 g1 g2 g3 e0 e1 e2 e3 (code_at NA (R1.sub _ (R2.sub _ hm)) co) hcn hcl T hk hd hu fun t h' tk' F' N' => hret t h' tk' c2 oc2 co F' (fun p hp => ?_) hcn (.inr rfl)
    rcases List.mem_cons.mp hp with rfl | hp
    · exact N' _ (.head _)
    rcases List.mem_cons.mp hp with rfl | hp
    · exact N' _ (.tail _ hm)
    · exact N' _ (.tail _ hp)
/-- numbers[-1] -/
theorem num_last {prog : Program} {w : World} {A : Around} {E : Value → Shared → Prop} {s : Shared} {value slice : PySem.Expr} {l : Addr} {n : Nat} {vs : List Value} {ks : List Int} {k : Int} {u : Tok} {Q : Value → Shared → Prop}
    (hl : s.heap.IsList l vs.toArray) (hi : IntsAre vs (ks ++ [k])) (hz : ks.length < 1000) (h : ∀ t, Q (.int k t) s)
    (hs : subscripted slice false (.ref l) (.int (-1) u) = operate [.ref l, .int (-1) u] (getItem (.ref l) (.int (-1) u)) := by with_unfolding_all rfl) :
    wpAny (model prog w) A (subscriptTail value slice (.ref l) (.int (-1) u)) Q E s := by
  have e : ∃ t, vs[ks.length]? = some (.int k t) ∧ vs.length = ks.length + 1 := by
    clear hl h hs hz
    induction ks generalizing vs with
    | nil => 
      obtain _ | ⟨_, t, h⟩ := hi
      cases h
      exact ⟨t, rfl, rfl⟩
    | cons x xs ih =>
      obtain _ | ⟨_, t, h⟩ := hi
      obtain ⟨t, e1, e2⟩ := ih h
      exact ⟨t, e1, congrArg (· + 1) e2⟩
  obtain ⟨t, e, el⟩ := e
  have hsz : vs.toArray.size = ks.length + 1 := by simp [el]
  refine tail_any hl.typeIs slot_list_getitem.lookup (wpAny_getItem_list_neg hl (by decide) (by rw [hsz]; omega) (by decide) ?_ (h t)) hs
  have e2 : ((-1 : Int) + (vs.toArray.size : Int)).toNat = ks.length := by rw [hsz]; omega
  rw [e2, List.getElem?_toArray]; exact e
end Mine
end

section
namespace Mine
theorem kwn_PK : True := by
  k_with_none
  trivial
open Plain
theorem tg_back {g : Int} (h : 1 ≤ g ∧ g < 4) : ((tg g).val : Int) + 1 = g := by
  have : g = 1 ∨ g = 2 ∨ g = 3 := by omega
  rcases this with rfl | rfl | rfl <;> rfl
theorem tg_enc (m : Fin 3) : tg ((m.val : Int) + 1) = m := by
  rcases fin3 m with rfl | rfl | rfl <;> rfl
theorem kI_enc {k0 k1 k2 k3 : Int} {kn : Fin 3 → Option (Fin 3)} (h1 : k1 = (enc (kn 0) : Int)) (h2 : k2 = (enc (kn 1) : Int)) (h3 : k3 = (enc (kn 2) : Int)) {g : Int} (hg : 1 ≤ g ∧ g < 4) : kI k0 k1 k2 k3 g = (enc (kn (tg g)) : Int) := by
  have : g = 1 ∨ g = 2 ∨ g = 3 := by omega
  rcases this with rfl | rfl | rfl
  · exact h1
  · exact h2
  · exact h3
/-- the code's out on numbers is the plain out -/
theorem outI_enc {k0 k1 k2 k3 : Int} {kn : Fin 3 → Option (Fin 3)} {gI dI : Fin 3 → Fin 3 → Int} {c : Fin 3} (h1 : k1 = (enc (kn 0) : Int)) (h2 : k2 = (enc (kn 1) : Int)) (h3 : k3 = (enc (kn 2) : Int)) (hg : ∀ m, 1 ≤ gI m c ∧ gI m c < 4) :
    ∀ n (x : Option (Fin 3)), outI (kI k0 k1 k2 k3) (fun y => gI (tg y) c) (fun y => dI (tg y) c) n (enc x : Int) = (enc (out kn (fun m => (tg (gI m c), decide (dI m c ≠ 0))) n x) : Int)
  | 0, _ => rfl
  | n + 1, none => by
    rw [outI_stop (by rfl)]; rfl
  | n + 1, some m => by
    have e : ((enc (some m) : Nat) : Int) = (m.val : Int) + 1 := by simp [enc]
    have hne : ((enc (some m) : Nat) : Int) ≠ 0 := by rw [e]; omega
    have ht : tg ((enc (some m) : Nat) : Int) = m := by rw [e]; exact tg_enc m
    by_cases q : dI m c = 0
    · rw [outI_go hne (by show dI (tg _) c = 0; rw [ht]; exact q)]
      show outI _ _ _ n (kI k0 k1 k2 k3 (gI (tg _) c)) = _
      rw [ht, kI_enc h1 h2 h3 (hg m), outI_enc h1 h2 h3 hg n]
      simp only [out, q]
      rfl
    · rw [outI_out hne (by show dI (tg _) c ≠ 0; rw [ht]; exact q)]
      show gI (tg _) c = _
      rw [ht]
      simp only [out]
      rw [if_pos (by simpa using q)]
      have := tg_back (hg m)
      simp only [enc]
      omega
theorem nd4 : ∀ a b c d : Fin 4, ((a.1 + 4 * b.1 + 16 * c.1 + 64 * d.1 : Nat) : Int) % 4 = (a.1 : Int) ∧ ((a.1 + 4 * b.1 + 16 * c.1 + 64 * d.1 : Nat) : Int) / 4 % 4 = (b.1 : Int) ∧ ((a.1 + 4 * b.1 + 16 * c.1 + 64 * d.1 : Nat) : Int) / 16 % 4 = (c.1 : Int) ∧ ((a.1 + 4 * b.1 + 16 * c.1 + 64 * d.1 : Nat) : Int) / 64 % 4 = (d.1 : Int) := by decide +kernel
theorem num_digits (t : Nat → Told) (i : Nat) : (num t i : Int) % 4 = (enc (fs t i) : Int) ∧ (num t i : Int) / 4 % 4 = (enc (kn t i 0) : Int) ∧ (num t i : Int) / 16 % 4 = (enc (kn t i 1) : Int) ∧ (num t i : Int) / 64 % 4 = (enc (kn t i 2) : Int) := by
  exact nd4 ⟨_, enc_lt (fs t i)⟩ ⟨_, enc_lt (kn t i 0)⟩ ⟨_, enc_lt (kn t i 1)⟩ ⟨_, enc_lt (kn t i 2)⟩
theorem num_lt (t : Nat → Told) (i : Nat) : num t i < 256 := by
  exact (by decide +kernel : ∀ a b c d : Fin 4, a.1 + 4 * b.1 + 16 * c.1 + 64 * d.1 < 256) ⟨_, enc_lt (fs t i)⟩ ⟨_, enc_lt (kn t i 0)⟩ ⟨_, enc_lt (kn t i 1)⟩ ⟨_, enc_lt (kn t i 2)⟩
theorem num_zero (t : Nat → Told) : num t 0 = 1 := rfl
/-- a turn of _law_numbers gives the next number -/
theorem num_step {gI dI : Fin 3 → Fin 3 → Int} {sg : List (Fin 3)} {i : Nat} {c : Fin 3} (hc : c = sg.getD i 2) (hg : ∀ m, 1 ≤ gI m c ∧ gI m c < 4) {k0 k1 k2 k3 : Int} (e0 : k0 = (num (tabT gI dI sg) i : Int) % 4) (e1 : k1 = (num (tabT gI dI sg) i : Int) / 4 % 4) (e2 : k2 = (num (tabT gI dI sg) i : Int) / 16 % 4) (e3 : k3 = (num (tabT gI dI sg) i : Int) / 64 % 4) :
    outI (kI k0 k1 k2 k3) (fun y => gI (tg y) c) (fun y => dI (tg y) c) 3 k0 + 4 * outI (kI k0 k1 k2 k3) (fun y => gI (tg y) c) (fun y => dI (tg y) c) 3 1 + 16 * outI (kI k0 k1 k2 k3) (fun y => gI (tg y) c) (fun y => dI (tg y) c) 3 2 + 64 * outI (kI k0 k1 k2 k3) (fun y => gI (tg y) c) (fun y => dI (tg y) c) 3 3
      = (num (tabT gI dI sg) (i + 1) : Int) := by
  obtain ⟨d0, d1, d2, d3⟩ := num_digits (tabT gI dI sg) i
  rw [d0] at e0; rw [d1] at e1; rw [d2] at e2; rw [d3] at e3
  have H := fun x => outI_enc (k0 := k0) (dI := dI) e1 e2 e3 hg 3 x
  have ht : tabT gI dI sg i = fun m => (tg (gI m c), decide (dI m c ≠ 0)) := by subst hc; rfl
  have h0 := H (fs (tabT gI dI sg) i)
  have h1 := H (some 0)
  have h2 := H (some 1)
  have h3 := H (some 2)
  rw [← e0] at h0
  have z1 : ((enc (some 0) : Nat) : Int) = 1 := rfl
  have z2 : ((enc (some 1) : Nat) : Int) = 2 := rfl
  have z3 : ((enc (some 2) : Nat) : Int) = 3 := rfl
  rw [z1] at h1; rw [z2] at h2; rw [z3] at h3
  rw [h0, h1, h2, h3]
  unfold num
  simp only [fs, kn, ht]
  push_cast
  rfl
end Mine
end

section
open PySem PySem.W PyProof.Rows PySem.Spec PySem.Calls
set_option Elab.async false
set_option maxRecDepth 100000
namespace Mine
theorem kwn_NV : True := by
  k_with_none
  trivial
theorem fillNV : RW = RW ∧ KF = KF := by
  k_fill
  exact ⟨rfl, rfl⟩
set_option maxHeartbeats 0
set_option rowWalk.seconds 0
/-- what a turn of _law_numbers leaves -/
noncomputable def NumJ (m₀ : Str → Option Value) (T : Nat → Plain.Told) (l CK CS td U0 U1 U2 U3 U4 U5 U6 U7 U8 : Addr) (FIX : List (Addr × Obj)) (I : Addr) (i : Nat) (m : Str → Option Value) (nx : List (Addr × Obj)) : Prop :=
  m = m₀ ∧ ∃ (vs : List Value) (nn : Nat) (q1 q2 : Array Value) (c1 c2 : Addr) (oc1 oc2 ok os : Obj) (vk vg : Option Value), IntsAre vs ((List.range (i + 1)).map fun k => (Plain.num T k : Int)) ∧ ((q1 = #[] ∧ i = 0) ∨ (q1 = tabOf 19 4 c1 ∧ CodeObj oc1 qI)) ∧ (q2 = #[] ∨ (q2 = tabOf 34 4 c2 ∧ CodeObj oc2 qD)) ∧
    (¬ @Eq Nat c1 104 ∧ ¬ @Eq Nat c1 111 ∧ ¬ @Eq Nat c1 l ∧ ¬ @Eq Nat c1 CK ∧ ¬ @Eq Nat c1 CS ∧ ¬ @Eq Nat c1 I ∧ (@LT.lt Nat _ c1 U0 ∨ @LT.lt Nat _ td c1)) ∧ (@LT.lt Nat _ 111 c2 ∧ ¬ @Eq Nat c2 l ∧ ¬ @Eq Nat c2 CK ∧ ¬ @Eq Nat c2 CS ∧ ¬ @Eq Nat c2 I ∧ (@LT.lt Nat _ c2 U0 ∨ @LT.lt Nat _ td c2)) ∧ ok.data = .cell vk ∧ os.data = .cell vg ∧
    nx = (l, W.listOf vs.toArray nn) :: (104, tabObj q1) :: (111, tabObj q2) :: (c1, oc1) :: (c2, oc2) :: (CK, ok) :: (CS, os) :: FIX
theorem num_loop {prog : Program} {w : World} {A : Around} {E : Value → Shared → Prop} {s : Shared} {h₀ : Heap} {env : Env} {body : List Stmt} {Q : Flow → Shared → Prop} {l td CK CS CT : Addr} {od ok0 os0 ot : Obj} {vk0 vg0 : Option Value} {t1 : Tok} {n1 : Nat} {U0 U1 U2 U3 U4 U5 U6 U7 U8 : Addr} {rn : Nat} {rl : Addr} {b0 b1 b2 b3 b4 b5 b6 b7 b8 : Addr} {r0 r1 r2 r3 r4 r5 r6 r7 r8 : Tok} {gt0 gt1 gt2 gt3 gt4 gt5 gt6 gt7 gt8 rt0 rt1 rt2 rt3 rt4 rt5 rt6 rt7 rt8 : Tok} {g0 g1 g2 g3 g4 g5 g6 g7 g8 d0 d1 d2 d3 d4 d5 d6 d7 d8 : Int} {sg : List (Fin 3)} {x : Str} {px : Pos} {t : Tok} {m₀ : Str → Option Value}
    (hh : A.handled = none) (F : Fr h₀ env.locals s.heap m₀) (N : News h₀ env.locals s.heap [(l, W.listOf #[.int 1 t1] n1), (td, od), (U0, tup2 (.int g0 gt0) (.int d0 rt0)), (U1, tup2 (.int g1 gt1) (.int d1 rt1)), (U2, tup2 (.int g2 gt2) (.int d2 rt2)), (U3, tup2 (.int g3 gt3) (.int d3 rt3)), (U4, tup2 (.int g4 gt4) (.int d4 rt4)), (U5, tup2 (.int g5 gt5) (.int d5 rt5)), (U6, tup2 (.int g6 gt6) (.int d6 rt6)), (U7, tup2 (.int g7 gt7) (.int d7 rt7)), (U8, tup2 (.int g8 gt8) (.int d8 rt8)), (CK, ok0), (CS, os0), (CT, ot), (rl, W.listOf #[.ref b0, .ref b1, .ref b2, .ref b3, .ref b4, .ref b5, .ref b6, .ref b7, .ref b8] rn), (b0, ({ cls := .type "tuple", data := .seq [.str (Str.ofString "pf") r0, .int g0 gt0, .int d0 rt0].toArray } : Obj)), (b1, ({ cls := .type "tuple", data := .seq [.str (Str.ofString "pi") r1, .int g1 gt1, .int d1 rt1].toArray } : Obj)), (b2, ({ cls := .type "tuple", data := .seq [.str (Str.ofString "qf") r2, .int g2 gt2, .int d2 rt2].toArray } : Obj)), (b3, ({ cls := .type "tuple", data := .seq [.str (Str.ofString "qi") r3, .int g3 gt3, .int d3 rt3].toArray } : Obj)), (b4, ({ cls := .type "tuple", data := .seq [.str (Str.ofString "rf") r4, .int g4 gt4, .int d4 rt4].toArray } : Obj)), (b5, ({ cls := .type "tuple", data := .seq [.str (Str.ofString "ri") r5, .int g5 gt5, .int d5 rt5].toArray } : Obj)), (b6, ({ cls := .type "tuple", data := .seq [.str (Str.ofString "p.") r6, .int g6 gt6, .int d6 rt6].toArray } : Obj)), (b7, ({ cls := .type "tuple", data := .seq [.str (Str.ofString "q.") r7, .int g7 gt7, .int d7 rt7].toArray } : Obj)), (b8, ({ cls := .type "tuple", data := .seq [.str (Str.ofString "r.") r8, .int g8 gt8, .int d8 rt8].toArray } : Obj)), (104, tabObj #[]), (111, tabObj #[])]) (hk : ok0.data = .cell vk0) (hg : os0.data = .cell vg0) (z1 : @LT.lt Nat _ 104 CT ∧ @LT.lt Nat _ 111 CT ∧ ¬ @Eq Nat CT l ∧ ¬ @Eq Nat CT CK ∧ ¬ @Eq Nat CT CS) (z2 : (@LT.lt Nat _ CT U0 ∨ @LT.lt Nat _ td CT))
    (turn : ∀ (I : Addr) (i : Nat) (c : Fin 3) u h tk o vs nn q1 q2 c1 c2 oc1 oc2 ok os vk vg, (@LT.lt Nat _ l I ∧ @LT.lt Nat _ td I ∧ @LT.lt Nat _ CK I ∧ @LT.lt Nat _ CS I ∧ @LT.lt Nat _ CT I ∧ @LT.lt Nat _ 104 I ∧ @LT.lt Nat _ 111 I) → c = sg.getD i 2 → o.cls = .type "str_ascii_iterator" → IntsAre vs (((List.range i).map fun k => (Plain.num (tabT (pick g0 g1 g2 g3 g4 g5 g6 g7 g8) (pick d0 d1 d2 d3 d4 d5 d6 d7 d8) sg) k : Int)) ++ [(Plain.num (tabT (pick g0 g1 g2 g3 g4 g5 g6 g7 g8) (pick d0 d1 d2 d3 d4 d5 d6 d7 d8) sg) i : Int)]) → i < sg.length → ((q1 = #[] ∧ (Plain.num (tabT (pick g0 g1 g2 g3 g4 g5 g6 g7 g8) (pick d0 d1 d2 d3 d4 d5 d6 d7 d8) sg) i : Int) = 1) ∨ (q1 = tabOf 19 4 c1 ∧ CodeObj oc1 qI)) → (q2 = #[] ∨ (q2 = tabOf 34 4 c2 ∧ CodeObj oc2 qD)) →
      (¬ @Eq Nat c1 104 ∧ ¬ @Eq Nat c1 111 ∧ ¬ @Eq Nat c1 l ∧ ¬ @Eq Nat c1 CK ∧ ¬ @Eq Nat c1 CS ∧ ¬ @Eq Nat c1 I ∧ (@LT.lt Nat _ c1 U0 ∨ @LT.lt Nat _ td c1)) → (@LT.lt Nat _ 111 c2 ∧ ¬ @Eq Nat c2 l ∧ ¬ @Eq Nat c2 CK ∧ ¬ @Eq Nat c2 CS ∧ ¬ @Eq Nat c2 I ∧ (@LT.lt Nat _ c2 U0 ∨ @LT.lt Nat _ td c2)) → ok.data = .cell vk → os.data = .cell vg →
      Fr h₀ env.locals h m₀ → News h₀ env.locals h ((I, o) :: [(l, W.listOf vs.toArray nn), (104, tabObj q1), (111, tabObj q2), (c1, oc1), (c2, oc2), (CK, ok), (CS, os), (td, od), (U0, tup2 (.int g0 gt0) (.int d0 rt0)), (U1, tup2 (.int g1 gt1) (.int d1 rt1)), (U2, tup2 (.int g2 gt2) (.int d2 rt2)), (U3, tup2 (.int g3 gt3) (.int d3 rt3)), (U4, tup2 (.int g4 gt4) (.int d4 rt4)), (U5, tup2 (.int g5 gt5) (.int d5 rt5)), (U6, tup2 (.int g6 gt6) (.int d6 rt6)), (U7, tup2 (.int g7 gt7) (.int d7 rt7)), (U8, tup2 (.int g8 gt8) (.int d8 rt8)), (CT, ot), (rl, W.listOf #[.ref b0, .ref b1, .ref b2, .ref b3, .ref b4, .ref b5, .ref b6, .ref b7, .ref b8] rn), (b0, ({ cls := .type "tuple", data := .seq [.str (Str.ofString "pf") r0, .int g0 gt0, .int d0 rt0].toArray } : Obj)), (b1, ({ cls := .type "tuple", data := .seq [.str (Str.ofString "pi") r1, .int g1 gt1, .int d1 rt1].toArray } : Obj)), (b2, ({ cls := .type "tuple", data := .seq [.str (Str.ofString "qf") r2, .int g2 gt2, .int d2 rt2].toArray } : Obj)), (b3, ({ cls := .type "tuple", data := .seq [.str (Str.ofString "qi") r3, .int g3 gt3, .int d3 rt3].toArray } : Obj)), (b4, ({ cls := .type "tuple", data := .seq [.str (Str.ofString "rf") r4, .int g4 gt4, .int d4 rt4].toArray } : Obj)), (b5, ({ cls := .type "tuple", data := .seq [.str (Str.ofString "ri") r5, .int g5 gt5, .int d5 rt5].toArray } : Obj)), (b6, ({ cls := .type "tuple", data := .seq [.str (Str.ofString "p.") r6, .int g6 gt6, .int d6 rt6].toArray } : Obj)), (b7, ({ cls := .type "tuple", data := .seq [.str (Str.ofString "q.") r7, .int g7 gt7, .int d7 rt7].toArray } : Obj)), (b8, ({ cls := .type "tuple", data := .seq [.str (Str.ofString "r.") r8, .int g8 gt8, .int d8 rt8].toArray } : Obj))]) → wpAny (model prog w) A (assign (.Name x px) env (.str ⟨#[sC c]⟩ u)) (fun _ s₂ => wpAny (model prog w) A (execs body env) (UnrPostW h₀ env.locals { s with heap := h, toks := tk } [(I, o)] (fun m' n' => NumJ m₀ (tabT (pick g0 g1 g2 g3 g4 g5 g6 g7 g8) (pick d0 d1 d2 d3 d4 d5 d6 d7 d8) sg) l CK CS td U0 U1 U2 U3 U4 U5 U6 U7 U8 [(td, od), (U0, tup2 (.int g0 gt0) (.int d0 rt0)), (U1, tup2 (.int g1 gt1) (.int d1 rt1)), (U2, tup2 (.int g2 gt2) (.int d2 rt2)), (U3, tup2 (.int g3 gt3) (.int d3 rt3)), (U4, tup2 (.int g4 gt4) (.int d4 rt4)), (U5, tup2 (.int g5 gt5) (.int d5 rt5)), (U6, tup2 (.int g6 gt6) (.int d6 rt6)), (U7, tup2 (.int g7 gt7) (.int d7 rt7)), (U8, tup2 (.int g8 gt8) (.int d8 rt8)), (CT, ot), (rl, W.listOf #[.ref b0, .ref b1, .ref b2, .ref b3, .ref b4, .ref b5, .ref b6, .ref b7, .ref b8] rn), (b0, ({ cls := .type "tuple", data := .seq [.str (Str.ofString "pf") r0, .int g0 gt0, .int d0 rt0].toArray } : Obj)), (b1, ({ cls := .type "tuple", data := .seq [.str (Str.ofString "pi") r1, .int g1 gt1, .int d1 rt1].toArray } : Obj)), (b2, ({ cls := .type "tuple", data := .seq [.str (Str.ofString "qf") r2, .int g2 gt2, .int d2 rt2].toArray } : Obj)), (b3, ({ cls := .type "tuple", data := .seq [.str (Str.ofString "qi") r3, .int g3 gt3, .int d3 rt3].toArray } : Obj)), (b4, ({ cls := .type "tuple", data := .seq [.str (Str.ofString "rf") r4, .int g4 gt4, .int d4 rt4].toArray } : Obj)), (b5, ({ cls := .type "tuple", data := .seq [.str (Str.ofString "ri") r5, .int g5 gt5, .int d5 rt5].toArray } : Obj)), (b6, ({ cls := .type "tuple", data := .seq [.str (Str.ofString "p.") r6, .int g6 gt6, .int d6 rt6].toArray } : Obj)), (b7, ({ cls := .type "tuple", data := .seq [.str (Str.ofString "q.") r7, .int g7 gt7, .int d7 rt7].toArray } : Obj)), (b8, ({ cls := .type "tuple", data := .seq [.str (Str.ofString "r.") r8, .int g8 gt8, .int d8 rt8].toArray } : Obj))] I (i + 1) m' n') Q) E s₂) E { s with heap := h, toks := tk })
    (done : ∀ vs nn q1 q2 c1 oc1 h tk, IntsAre vs ((List.range (sg.length + 1)).map fun k => (Plain.num (tabT (pick g0 g1 g2 g3 g4 g5 g6 g7 g8) (pick d0 d1 d2 d3 d4 d5 d6 d7 d8) sg) k : Int)) → Fr h₀ env.locals h m₀ → News h₀ env.locals h ((l, W.listOf vs.toArray nn) :: (104, tabObj q1) :: (111, tabObj q2) :: (c1, oc1) :: [(rl, W.listOf #[.ref b0, .ref b1, .ref b2, .ref b3, .ref b4, .ref b5, .ref b6, .ref b7, .ref b8] rn), (b0, ({ cls := .type "tuple", data := .seq [.str (Str.ofString "pf") r0, .int g0 gt0, .int d0 rt0].toArray } : Obj)), (b1, ({ cls := .type "tuple", data := .seq [.str (Str.ofString "pi") r1, .int g1 gt1, .int d1 rt1].toArray } : Obj)), (b2, ({ cls := .type "tuple", data := .seq [.str (Str.ofString "qf") r2, .int g2 gt2, .int d2 rt2].toArray } : Obj)), (b3, ({ cls := .type "tuple", data := .seq [.str (Str.ofString "qi") r3, .int g3 gt3, .int d3 rt3].toArray } : Obj)), (b4, ({ cls := .type "tuple", data := .seq [.str (Str.ofString "rf") r4, .int g4 gt4, .int d4 rt4].toArray } : Obj)), (b5, ({ cls := .type "tuple", data := .seq [.str (Str.ofString "ri") r5, .int g5 gt5, .int d5 rt5].toArray } : Obj)), (b6, ({ cls := .type "tuple", data := .seq [.str (Str.ofString "p.") r6, .int g6 gt6, .int d6 rt6].toArray } : Obj)), (b7, ({ cls := .type "tuple", data := .seq [.str (Str.ofString "q.") r7, .int g7 gt7, .int d7 rt7].toArray } : Obj)), (b8, ({ cls := .type "tuple", data := .seq [.str (Str.ofString "r.") r8, .int g8 gt8, .int d8 rt8].toArray } : Obj))]) → Q .next { s with heap := h, toks := tk }) :
    wpAny (model prog w) A (pyIter (.str (tapeS sg) t)) (fun it s₂ => TurnsAt prog w A h₀ env (.Name x px) body Q E it s₂) E s := by
  refine iter_strJ (NumJ m₀ (tabT (pick g0 g1 g2 g3 g4 g5 g6 g7 g8) (pick d0 d1 d2 d3 d4 d5 d6 d7 d8) sg) l CK CS td U0 U1 U2 U3 U4 U5 U6 U7 U8 [(td, od), (U0, tup2 (.int g0 gt0) (.int d0 rt0)), (U1, tup2 (.int g1 gt1) (.int d1 rt1)), (U2, tup2 (.int g2 gt2) (.int d2 rt2)), (U3, tup2 (.int g3 gt3) (.int d3 rt3)), (U4, tup2 (.int g4 gt4) (.int d4 rt4)), (U5, tup2 (.int g5 gt5) (.int d5 rt5)), (U6, tup2 (.int g6 gt6) (.int d6 rt6)), (U7, tup2 (.int g7 gt7) (.int d7 rt7)), (U8, tup2 (.int g8 gt8) (.int d8 rt8)), (CT, ot), (rl, W.listOf #[.ref b0, .ref b1, .ref b2, .ref b3, .ref b4, .ref b5, .ref b6, .ref b7, .ref b8] rn), (b0, ({ cls := .type "tuple", data := .seq [.str (Str.ofString "pf") r0, .int g0 gt0, .int d0 rt0].toArray } : Obj)), (b1, ({ cls := .type "tuple", data := .seq [.str (Str.ofString "pi") r1, .int g1 gt1, .int d1 rt1].toArray } : Obj)), (b2, ({ cls := .type "tuple", data := .seq [.str (Str.ofString "qf") r2, .int g2 gt2, .int d2 rt2].toArray } : Obj)), (b3, ({ cls := .type "tuple", data := .seq [.str (Str.ofString "qi") r3, .int g3 gt3, .int d3 rt3].toArray } : Obj)), (b4, ({ cls := .type "tuple", data := .seq [.str (Str.ofString "rf") r4, .int g4 gt4, .int d4 rt4].toArray } : Obj)), (b5, ({ cls := .type "tuple", data := .seq [.str (Str.ofString "ri") r5, .int g5 gt5, .int d5 rt5].toArray } : Obj)), (b6, ({ cls := .type "tuple", data := .seq [.str (Str.ofString "p.") r6, .int g6 gt6, .int d6 rt6].toArray } : Obj)), (b7, ({ cls := .type "tuple", data := .seq [.str (Str.ofString "q.") r7, .int g7 gt7, .int d7 rt7].toArray } : Obj)), (b8, ({ cls := .type "tuple", data := .seq [.str (Str.ofString "r.") r8, .int g8 gt8, .int d8 rt8].toArray } : Obj))]) (news := [(l, W.listOf #[.int 1 t1] n1), (104, tabObj #[]), (111, tabObj #[]), (CT, ot), (CT, ot), (CK, ok0), (CS, os0), (td, od), (U0, tup2 (.int g0 gt0) (.int d0 rt0)), (U1, tup2 (.int g1 gt1) (.int d1 rt1)), (U2, tup2 (.int g2 gt2) (.int d2 rt2)), (U3, tup2 (.int g3 gt3) (.int d3 rt3)), (U4, tup2 (.int g4 gt4) (.int d4 rt4)), (U5, tup2 (.int g5 gt5) (.int d5 rt5)), (U6, tup2 (.int g6 gt6) (.int d6 rt6)), (U7, tup2 (.int g7 gt7) (.int d7 rt7)), (U8, tup2 (.int g8 gt8) (.int d8 rt8)), (CT, ot), (rl, W.listOf #[.ref b0, .ref b1, .ref b2, .ref b3, .ref b4, .ref b5, .ref b6, .ref b7, .ref b8] rn), (b0, ({ cls := .type "tuple", data := .seq [.str (Str.ofString "pf") r0, .int g0 gt0, .int d0 rt0].toArray } : Obj)), (b1, ({ cls := .type "tuple", data := .seq [.str (Str.ofString "pi") r1, .int g1 gt1, .int d1 rt1].toArray } : Obj)), (b2, ({ cls := .type "tuple", data := .seq [.str (Str.ofString "qf") r2, .int g2 gt2, .int d2 rt2].toArray } : Obj)), (b3, ({ cls := .type "tuple", data := .seq [.str (Str.ofString "qi") r3, .int g3 gt3, .int d3 rt3].toArray } : Obj)), (b4, ({ cls := .type "tuple", data := .seq [.str (Str.ofString "rf") r4, .int g4 gt4, .int d4 rt4].toArray } : Obj)), (b5, ({ cls := .type "tuple", data := .seq [.str (Str.ofString "ri") r5, .int g5 gt5, .int d5 rt5].toArray } : Obj)), (b6, ({ cls := .type "tuple", data := .seq [.str (Str.ofString "p.") r6, .int g6 gt6, .int d6 rt6].toArray } : Obj)), (b7, ({ cls := .type "tuple", data := .seq [.str (Str.ofString "q.") r7, .int g7 gt7, .int d7 rt7].toArray } : Obj)), (b8, ({ cls := .type "tuple", data := .seq [.str (Str.ofString "r.") r8, .int g8 gt8, .int d8 rt8].toArray } : Obj))]) hh F (cb_drop N (SubL.mem (by k_subL))) (fun I hI => ⟨rfl, [.int 1 t1], n1, #[], #[], CT, CT, _, _, ok0, os0, vk0, vg0, ?_, .inl ⟨rfl, rfl⟩, .inl rfl, ⟨?_, ?_, z1.2.2.1, z1.2.2.2.1, z1.2.2.2.2, Nat.ne_of_lt (hI (CT, ot) (.tail _ (.tail _ (.tail _ (.head _))))), z2⟩, ⟨z1.2.1, z1.2.2.1, z1.2.2.2.1, z1.2.2.2.2, Nat.ne_of_lt (hI (CT, ot) (.tail _ (.tail _ (.tail _ (.head _))))), z2⟩, hk, hg, rfl⟩) ?_ ?_
  · show IntsAre _ [(Plain.num (tabT (pick g0 g1 g2 g3 g4 g5 g6 g7 g8) (pick d0 d1 d2 d3 d4 d5 d6 d7 d8) sg) 0 : Int)]
    exact .cons 1 t1 .nil
  · omega
  · omega
  · rintro I i c u h tk o m nx hI hi ho ⟨rfl, vs, nn, q1, q2, c1, c2, oc1, oc2, ok, os, vk, vg, hv, h1, h2, n1, n2, hk, hg, rfl⟩ F' N'
    have hi' : i < sg.length := (List.getElem?_eq_some_iff.mp hi).1
    have hc : c = sg.getD i 2 := by rw [List.getD_eq_getElem?_getD, hi]; rfl
    refine turn I i c u h tk o vs nn q1 q2 c1 c2 oc1 oc2 ok os vk vg ⟨hI (l, _) (.head _), hI (td, od) (by k_mem), hI (CK, ok0) (by k_mem), hI (CS, os0) (by k_mem), hI (CT, ot) (by k_mem), hI (104, tabObj #[]) (.tail _ (.head _)), hI (111, tabObj #[]) (.tail _ (.tail _ (.head _)))⟩ hc ho ?_ hi' ?_ h2 n1 n2 hk hg F' N'
    · rw [List.range_succ, List.map_append] at hv; exact hv
    · rcases h1 with ⟨e, rfl⟩ | h1
      · exact .inl ⟨e, congrArg Int.ofNat (num_zero _)⟩
      · exact .inr h1
  · rintro I m nx h tk ⟨rfl, vs, nn, q1, q2, c1, c2, oc1, oc2, ok, os, vk, vg, hv, h1, h2, n1, n2, hk, hg, rfl⟩ F' N'
    exact done vs nn q1 q2 c1 oc1 h tk hv F' (cb_drop N' (SubL.mem (by k_subL)))
end Mine
end

section
open PySem PySem.W PyProof.Rows PySem.Spec PySem.Calls
set_option Elab.async false
set_option maxRecDepth 100000
namespace Mine
theorem kwn_ON : True := by
  k_with_none
  trivial
theorem fillON : RW = RW ∧ KF = KF := by
  k_fill
  exact ⟨rfl, rfl⟩
set_option maxHeartbeats 0
set_option rowWalk.seconds 0
theorem cf9 {c9 c7 l9 l CK CS I U0 td : Nat} (h : l9 < c9 ∨ c9 = c7) (n : ¬ c7 = 104 ∧ ¬ c7 = 111 ∧ ¬ c7 = l ∧ ¬ c7 = CK ∧ ¬ c7 = CS ∧ ¬ c7 = I ∧ (c7 < U0 ∨ td < c7)) (a0 : c7 < l9) (a1 : 104 < l9) (a2 : 111 < l9) (a3 : l < l9) (a4 : CK < l9) (a5 : CS < l9) (a6 : I < l9) (a7 : td < l9) :
    (¬ c9 = 104 ∧ ¬ c9 = 111 ∧ ¬ c9 = l ∧ ¬ c9 = CK ∧ ¬ c9 = CS ∧ ¬ c9 = I ∧ (c9 < U0 ∨ td < c9)) ∧ ¬ c9 = l9 := by
  rcases h with h | rfl
  · exact ⟨⟨Nat.ne_of_gt (Nat.lt_trans a1 h), Nat.ne_of_gt (Nat.lt_trans a2 h), Nat.ne_of_gt (Nat.lt_trans a3 h), Nat.ne_of_gt (Nat.lt_trans a4 h), Nat.ne_of_gt (Nat.lt_trans a5 h), Nat.ne_of_gt (Nat.lt_trans a6 h), .inr (Nat.lt_trans a7 h)⟩, Nat.ne_of_gt h⟩
  · exact ⟨n, Nat.ne_of_lt a0⟩
theorem cf6 {c6 c7 l CK CS I U0 td : Nat} {R : List (Addr × Obj)} {ol oK oS oI ot : Obj} (h : (∀ p ∈ R, @LT.lt Nat _ p.1 c6) ∨ c6 = c7) (n : 111 < c7 ∧ ¬ c7 = l ∧ ¬ c7 = CK ∧ ¬ c7 = CS ∧ ¬ c7 = I ∧ (c7 < U0 ∨ td < c7)) (h1 : 111 < c6) (m1 : (l, ol) ∈ R) (m2 : (CK, oK) ∈ R) (m3 : (CS, oS) ∈ R) (m4 : (I, oI) ∈ R) (m5 : (td, ot) ∈ R) :
    111 < c6 ∧ ¬ c6 = l ∧ ¬ c6 = CK ∧ ¬ c6 = CS ∧ ¬ c6 = I ∧ (c6 < U0 ∨ td < c6) := by
  rcases h with h | h
  · have b1 : l < c6 := h _ m1
    have b2 : CK < c6 := h _ m2
    have b3 : CS < c6 := h _ m3
    have b4 : I < c6 := h _ m4
    have b5 : td < c6 := h _ m5
    exact ⟨h1, Nat.ne_of_gt b1, Nat.ne_of_gt b2, Nat.ne_of_gt b3, Nat.ne_of_gt b4, .inr b5⟩
  · exact h ▸ n
theorem chainU {a U0 U1 U2 U3 U4 U5 U6 U7 U8 : Nat} (h : a < U0) (z1 : U0 < U1) (z2 : U1 < U2) (z3 : U2 < U3) (z4 : U3 < U4) (z5 : U4 < U5) (z6 : U5 < U6) (z7 : U6 < U7) (z8 : U7 < U8) : a < U1 ∧ a < U2 ∧ a < U3 ∧ a < U4 ∧ a < U5 ∧ a < U6 ∧ a < U7 ∧ a < U8 := by
  have h1 := Nat.lt_trans h z1
  have h2 := Nat.lt_trans h1 z2
  have h3 := Nat.lt_trans h2 z3
  have h4 := Nat.lt_trans h3 z4
  have h5 := Nat.lt_trans h4 z5
  have h6 := Nat.lt_trans h5 z6
  have h7 := Nat.lt_trans h6 z7
  exact ⟨h1, h2, h3, h4, h5, h6, h7, Nat.lt_trans h7 z8⟩
theorem outI_b {k G D : Int → Int} (hG : ∀ y, 0 ≤ G y ∧ G y < 4) : ∀ (n : Nat) (x : Int), 0 ≤ outI k G D n x ∧ outI k G D n x < 4
  | 0, _ => ⟨Int.le_refl _, show (0 : Int) < 4 by decide⟩
  | n + 1, x => by
    unfold outI
    split
    · exact ⟨Int.le_refl _, show (0 : Int) < 4 by decide⟩
    split
    · exact outI_b hG n _
    · exact hG x
theorem digs_len (x : Int) : (digs x).length ≤ 4 := by
  unfold digs
  repeat' split
  all_goals exact Nat.le_of_ble_eq_true rfl
theorem emod4 (x : Int) : 0 ≤ x % 4 ∧ x % 4 < 4 := ⟨Int.emod_nonneg _ (by decide), Int.emod_lt_of_pos _ (by decide)⟩
theorem vsz {vs : List Value} {f : Nat → Int} {a : Int} {i n : Nat} (h : IntsAre vs ((List.range i).map f ++ [a])) (hi : i < n) (hn : n ≤ 12) : vs.toArray.size ≤ sizeLine := by
  have e := h.length
  simp only [List.length_append, List.length_map, List.length_range, List.length_cons, List.length_nil] at e
  rw [List.size_toArray, e]
  exact Nat.le_trans (show i + 1 ≤ 13 by omega) (Nat.le_of_ble_eq_true rfl)
theorem ints_next {vs : List Value} {f : Nat → Int} {i : Nat} {x : Int} {t : Tok} (h : IntsAre vs ((List.range i).map f ++ [f i])) (e : x = f (i + 1)) : IntsAre (vs ++ [.int x t]) ((List.range (i + 1 + 1)).map f) := by
  rw [List.range_succ, List.map_append, List.range_succ, List.map_append]
  subst e
  exact IntsAre.append h (.cons _ t .nil)
theorem rest_offON {h g h' h₀ : Heap} {L L' : Addr} {news rest nx led : List (Addr × Obj)} (HB : HoldsBut h g news) (NR : News h₀ L h rest) (off : ∀ p ∈ rest, p.1 ∉ news.map (·.1)) (N : News g L' h' nx) (sub : ∀ q ∈ led, q ∈ nx) : ∀ p ∈ rest, ∀ q ∈ led, q.1 ≠ p.1 := fun p hp q hq e => by
  have := HB _ _ (NR p hp).1 (off p hp)
  rw [← e, (N q (sub q hq)).2.2] at this; cases this
theorem numbers_ok {w : World} {rn : Nat} {rl : Addr} {b0 b1 b2 b3 b4 b5 b6 b7 b8 : Addr} {r0 r1 r2 r3 r4 r5 r6 r7 r8 : Tok} {gt0 gt1 gt2 gt3 gt4 gt5 gt6 gt7 gt8 rt0 rt1 rt2 rt3 rt4 rt5 rt6 rt7 rt8 : Tok} {g0 g1 g2 g3 g4 g5 g6 g7 g8 d0 d1 d2 d3 d4 d5 d6 d7 d8 : Int} {sg : List (Fin 3)} {tT : Tok} (hn : sg.length ≤ 12) (hg0 : 1 ≤ g0 ∧ g0 < 4) (hg1 : 1 ≤ g1 ∧ g1 < 4) (hg2 : 1 ≤ g2 ∧ g2 < 4) (hg3 : 1 ≤ g3 ∧ g3 < 4) (hg4 : 1 ≤ g4 ∧ g4 < 4) (hg5 : 1 ≤ g5 ∧ g5 < 4) (hg6 : 1 ≤ g6 ∧ g6 < 4) (hg7 : 1 ≤ g7 ∧ g7 < 4) (hg8 : 1 ≤ g8 ∧ g8 < 4) {mean : ExcName → Option Value} {mg mb : Str → Option Value} {dp un : Nat} {gd : Option (List Code)} {cn : Str} {cs : Scope} {a : Addr} {ccd : Value} {cl : List (Str × Addr)} {outer : List Env} {A₀ : Around} {base h₀ : Heap} {L : Addr} {m : Str → Option Value} {s : Shared} {Q E : Value → Shared → Prop} {rest : List (Addr × Obj)}
    (B : Below A₀ base outer h₀) (F : Fr h₀ L s.heap m) (X : (KF w.params).In h₀) (N : News h₀ L s.heap [(rl, W.listOf #[.ref b0, .ref b1, .ref b2, .ref b3, .ref b4, .ref b5, .ref b6, .ref b7, .ref b8] rn), (b0, ({ cls := .type "tuple", data := .seq [.str (Str.ofString "pf") r0, .int g0 gt0, .int d0 rt0].toArray } : Obj)), (b1, ({ cls := .type "tuple", data := .seq [.str (Str.ofString "pi") r1, .int g1 gt1, .int d1 rt1].toArray } : Obj)), (b2, ({ cls := .type "tuple", data := .seq [.str (Str.ofString "qf") r2, .int g2 gt2, .int d2 rt2].toArray } : Obj)), (b3, ({ cls := .type "tuple", data := .seq [.str (Str.ofString "qi") r3, .int g3 gt3, .int d3 rt3].toArray } : Obj)), (b4, ({ cls := .type "tuple", data := .seq [.str (Str.ofString "rf") r4, .int g4 gt4, .int d4 rt4].toArray } : Obj)), (b5, ({ cls := .type "tuple", data := .seq [.str (Str.ofString "ri") r5, .int g5 gt5, .int d5 rt5].toArray } : Obj)), (b6, ({ cls := .type "tuple", data := .seq [.str (Str.ofString "p.") r6, .int g6 gt6, .int d6 rt6].toArray } : Obj)), (b7, ({ cls := .type "tuple", data := .seq [.str (Str.ofString "q.") r7, .int g7 gt7, .int d7 rt7].toArray } : Obj)), (b8, ({ cls := .type "tuple", data := .seq [.str (Str.ofString "r.") r8, .int g8 gt8, .int d8 rt8].toArray } : Obj)), (104, tabObj #[]), (111, tabObj #[])]) (NR : News h₀ L s.heap rest) (off : ∀ p ∈ rest, p.1 ∉ ([(rl, W.listOf #[.ref b0, .ref b1, .ref b2, .ref b3, .ref b4, .ref b5, .ref b6, .ref b7, .ref b8] rn), (b0, ({ cls := .type "tuple", data := .seq [.str (Str.ofString "pf") r0, .int g0 gt0, .int d0 rt0].toArray } : Obj)), (b1, ({ cls := .type "tuple", data := .seq [.str (Str.ofString "pi") r1, .int g1 gt1, .int d1 rt1].toArray } : Obj)), (b2, ({ cls := .type "tuple", data := .seq [.str (Str.ofString "qf") r2, .int g2 gt2, .int d2 rt2].toArray } : Obj)), (b3, ({ cls := .type "tuple", data := .seq [.str (Str.ofString "qi") r3, .int g3 gt3, .int d3 rt3].toArray } : Obj)), (b4, ({ cls := .type "tuple", data := .seq [.str (Str.ofString "rf") r4, .int g4 gt4, .int d4 rt4].toArray } : Obj)), (b5, ({ cls := .type "tuple", data := .seq [.str (Str.ofString "ri") r5, .int g5 gt5, .int d5 rt5].toArray } : Obj)), (b6, ({ cls := .type "tuple", data := .seq [.str (Str.ofString "p.") r6, .int g6 gt6, .int d6 rt6].toArray } : Obj)), (b7, ({ cls := .type "tuple", data := .seq [.str (Str.ofString "q.") r7, .int g7 gt7, .int d7 rt7].toArray } : Obj)), (b8, ({ cls := .type "tuple", data := .seq [.str (Str.ofString "r.") r8, .int g8 gt8, .int d8 rt8].toArray } : Obj)), (104, tabObj #[]), (111, tabObj #[])] : List (Addr × Obj)).map (·.1)) (T : Top topProg LN mean mg mb h₀) (hk : cs.kind = .function) (hd : dp + 10 < recursionLimit) (hu : un + 80 < cLine)
    (hret : ∀ nu vs nn q1 q2 h' tk', IntsAre vs ((List.range (sg.length + 1)).map fun k => (Plain.num (tabT (pick g0 g1 g2 g3 g4 g5 g6 g7 g8) (pick d0 d1 d2 d3 d4 d5 d6 d7 d8) sg) k : Int)) → Fr h₀ L h' m → News h₀ L h' [(rl, W.listOf #[.ref b0, .ref b1, .ref b2, .ref b3, .ref b4, .ref b5, .ref b6, .ref b7, .ref b8] rn), (b0, ({ cls := .type "tuple", data := .seq [.str (Str.ofString "pf") r0, .int g0 gt0, .int d0 rt0].toArray } : Obj)), (b1, ({ cls := .type "tuple", data := .seq [.str (Str.ofString "pi") r1, .int g1 gt1, .int d1 rt1].toArray } : Obj)), (b2, ({ cls := .type "tuple", data := .seq [.str (Str.ofString "qf") r2, .int g2 gt2, .int d2 rt2].toArray } : Obj)), (b3, ({ cls := .type "tuple", data := .seq [.str (Str.ofString "qi") r3, .int g3 gt3, .int d3 rt3].toArray } : Obj)), (b4, ({ cls := .type "tuple", data := .seq [.str (Str.ofString "rf") r4, .int g4 gt4, .int d4 rt4].toArray } : Obj)), (b5, ({ cls := .type "tuple", data := .seq [.str (Str.ofString "ri") r5, .int g5 gt5, .int d5 rt5].toArray } : Obj)), (b6, ({ cls := .type "tuple", data := .seq [.str (Str.ofString "p.") r6, .int g6 gt6, .int d6 rt6].toArray } : Obj)), (b7, ({ cls := .type "tuple", data := .seq [.str (Str.ofString "q.") r7, .int g7 gt7, .int d7 rt7].toArray } : Obj)), (b8, ({ cls := .type "tuple", data := .seq [.str (Str.ofString "r.") r8, .int g8 gt8, .int d8 rt8].toArray } : Obj)), (nu, W.listOf vs.toArray nn), (104, tabObj q1), (111, tabObj q2)] → News h₀ L h' rest → (∀ p ∈ rest, ∀ q ∈ ([(rl, W.listOf #[.ref b0, .ref b1, .ref b2, .ref b3, .ref b4, .ref b5, .ref b6, .ref b7, .ref b8] rn), (b0, ({ cls := .type "tuple", data := .seq [.str (Str.ofString "pf") r0, .int g0 gt0, .int d0 rt0].toArray } : Obj)), (b1, ({ cls := .type "tuple", data := .seq [.str (Str.ofString "pi") r1, .int g1 gt1, .int d1 rt1].toArray } : Obj)), (b2, ({ cls := .type "tuple", data := .seq [.str (Str.ofString "qf") r2, .int g2 gt2, .int d2 rt2].toArray } : Obj)), (b3, ({ cls := .type "tuple", data := .seq [.str (Str.ofString "qi") r3, .int g3 gt3, .int d3 rt3].toArray } : Obj)), (b4, ({ cls := .type "tuple", data := .seq [.str (Str.ofString "rf") r4, .int g4 gt4, .int d4 rt4].toArray } : Obj)), (b5, ({ cls := .type "tuple", data := .seq [.str (Str.ofString "ri") r5, .int g5 gt5, .int d5 rt5].toArray } : Obj)), (b6, ({ cls := .type "tuple", data := .seq [.str (Str.ofString "p.") r6, .int g6 gt6, .int d6 rt6].toArray } : Obj)), (b7, ({ cls := .type "tuple", data := .seq [.str (Str.ofString "q.") r7, .int g7 gt7, .int d7 rt7].toArray } : Obj)), (b8, ({ cls := .type "tuple", data := .seq [.str (Str.ofString "r.") r8, .int g8 gt8, .int d8 rt8].toArray } : Obj)), (nu, W.listOf vs.toArray nn), (104, tabObj q1), (111, tabObj q2)] : List (Addr × Obj)), q.1 ≠ p.1) → Q (.ref nu) { s with heap := h', toks := tk' }) :
    wpAny (model PW w) (ktrTop dp un gd cn cs L a ccd cl outer) (call (.ref 318) [.str (tapeS sg) tT, .ref rl]) Q E s := by
  k_with_none
  k_with "!eval ListComp" => (k_dflt (refine' told_comp (rl := rl) ?hh ?hc1 ?hc2 ?hc3 ?hc4 ?k1 ?k2 ?k3 ?F ?X ?N ?hl ?m0 ?m1 ?m2 ?m3 ?m4 ?m5 ?m6 ?m7 ?m8 ?hev ?_; (case hh => exact rfl); (case hc1 => exact rfl); (case hc2 => decide); (case hc3 => exact rfl); (case hc4 => decide); (case k1 => exact rfl); (case k2 => exact rfl); (case k3 => exact rfl); (case F => k_asm); (case X => k_asm); (case N => k_asm); (case hl => k_mem); (case m0 => k_mem); (case m1 => k_mem); (case m2 => k_mem); (case m3 => k_mem); (case m4 => k_mem); (case m5 => k_mem); (case m6 => k_mem); (case m7 => k_mem); (case m8 => k_mem); (case hev => (refine' nameX_L ?F2 ?v2 ?_ ?a2 ?b2; (case F2 => k_asm); (case a2 => rfl); (case b2 => rfl); (case v2 => rfl); exact ⟨rfl, rfl⟩))); intro D9 T0 T1 T2 T3 T4 T5 T6 T7 T8 U0 U1 U2 U3 U4 U5 U6 U7 U8 h9 tk9 F9 N9 z0 z1 z2 z3 z4 z5 z6 z7 z8; (k_lt z0); (have zz := chainU (a := L' + 1 + 1 + 1) (by assumption) z1 z2 z3 z4 z5 z6 z7 z8); (have y1 := zz.1); (have y2 := zz.2.1); (have y3 := zz.2.2.1); (have y4 := zz.2.2.2.1); (have y5 := zz.2.2.2.2.1); (have y6 := zz.2.2.2.2.2.1); (have y7 := zz.2.2.2.2.2.2.1); (have y8 := zz.2.2.2.2.2.2.2); (clear zz))
  k_with "!call type:dict" => (k_dflt (refine' told_dict ?hh ?F ?N ?_; (case hh => exact rfl); (case F => k_asm); (case N => k_asm)); intro td od h9 tk9 hod F9 N9 l9; (k_lt l9))
  k_with "!eval ListComp" => (k_dflt ((rename IntsAre _ (List.take 4 _) => hI9); (obtain ⟨y0, y1, y2, y3, ey⟩ := ints4 (Int.natCast_nonneg _) (by exact_mod_cast num_lt _ _) hI9); (subst ey); (clear hI9); (refine' out_compR (c := c7) ?hk0 ?hk1 ?hk2 ?hk3 hg0 hg1 hg2 hg3 hg4 hg5 hg6 hg7 hg8 ?ho ?R1 ?R2 ?R3 ?R4 ?R5 ?R6 ?R7 ?R8 ?R9 ?R10 ?R11 ?ord ?offR ?hct ?dct ?hcg ?dcg ?hck ?dck ?hclos ?hcell ?hkind ?hnames ?kx ?f1 ?f2 ?f3 ?f4 ?lk1 ?lk2 ?lk3 ?hge ?B ?X ?T ?hk ?hd ?hu ?N ?hev ?hs ?cont; (case N => k_asm); (case ho => assumption); (case R1 => repeat (first | exact Rem.head | apply Rem.tail)); (case R2 => repeat (first | exact Rem.head | apply Rem.tail)); (case R3 => repeat (first | exact Rem.head | apply Rem.tail)); (case R4 => repeat (first | exact Rem.head | apply Rem.tail)); (case R5 => repeat (first | exact Rem.head | apply Rem.tail)); (case R6 => repeat (first | exact Rem.head | apply Rem.tail)); (case R7 => repeat (first | exact Rem.head | apply Rem.tail)); (case R8 => repeat (first | exact Rem.head | apply Rem.tail)); (case R9 => repeat (first | exact Rem.head | apply Rem.tail)); (case R10 => repeat (first | exact Rem.head | apply Rem.tail)); (case R11 => repeat (first | exact Rem.head | apply Rem.tail)); (case hk0 => exact emod4 _); (case hk1 => exact emod4 _); (case hk2 => exact emod4 _); (case hk3 => exact emod4 _); (case ord => refine ⟨?_, ?_, ?_, ?_, ?_, ?_, ?_, ?_, ?_, ?_⟩ <;> first | assumption | omega); (case offR => (repeat (first | exact (fun _ h => absurd h List.not_mem_nil) | refine List.forall_mem_cons.mpr ⟨by (dsimp only); first | exact ⟨.inl (by assumption), by assumption⟩ | exact ⟨.inr (by assumption), by assumption⟩ | exact ⟨by assumption, by assumption⟩ | omega, ?_⟩))); (case hge => exact rfl); (case hclos => exact rfl); (case hcell => decide); (case hkind => exact rfl); (case hnames => decide); (case kx => exact rfl); (case f1 => intro _; with_unfolding_all rfl); (case f2 => intro _; with_unfolding_all rfl); (case f3 => intro _; with_unfolding_all rfl); (case f4 => intro _; with_unfolding_all rfl); (case lk1 => exact rfl); (case lk2 => exact rfl); (case lk3 => exact rfl); (case hct => k_mem); (case hcg => k_mem); (case hck => k_mem); (case dct => assumption); (case dcg => assumption); (case dck => assumption); (case B => k_asm); (case X => k_asm); (case T => k_asm); (case hk => first | exact rfl | assumption); (case hd => ktr_room); (case hu => ktr_units); (case hs => intro _; rfl); (case hev => refine known_tup (by k_asm) (by k_asm) rfl (by k_mem) (by assumption) (by k_mem) rfl rfl); (case' cont => intro D5 t50 t51 t52 t53 h5 tk5 F5 N5 l5; (simp only [List.cons_append, List.nil_append] at N5 l5); (k_lt l5)); (try k_sweep); (try dsimp only); (try k_fold))))
  k_with "call ref" => (k_dflt (refine' dig_u ?b0 ?b1 ?hq ?hne ?k1 ?k2 ?k3 ?k4 ?r1 ?hm ?o ?k5 ?kK ?kd ?ku ?_; (case b0 => exact Int.natCast_nonneg _); (case b1 => exact_mod_cast num_lt _ _); (case hq => exact hq17); (case hne => exact n17.1); (case k1 => k_asm); (case k2 => k_asm); (case k3 => k_asm); (case k4 => k_asm); (case r1 => repeat (first | exact Rem.head | apply Rem.tail)); (case hm => k_mem); (case o => ktu_offL); (case k5 => k_asm); (case kK => first | exact rfl | assumption); (case kd => ktr_room); (case ku => ktr_units)); intro l9 vs9 n9 h9 tk9 c9 oc9 hi9 co9 F9 N9 lt9 lt8; (have hdl := digs_len (Plain.num (tabT (pick g0 g1 g2 g3 g4 g5 g6 g7 g8) (pick d0 d1 d2 d3 d4 d5 d6 d7 d8) sg) i7 : Int)); (k_lt lt9); (have cc := cf9 lt8 n17 (by assumption) (by assumption) (by assumption) (by assumption) (by assumption) (by assumption) (by assumption) (by assumption)); (have e1 := cc.1.1); (have e2 := cc.1.2.1); (have e3 := cc.1.2.2.1); (have e4 := cc.1.2.2.2.1); (have e5 := cc.1.2.2.2.2.1); (have e6 := cc.1.2.2.2.2.2.1); (have e7 := cc.1.2.2.2.2.2.2); (have e8 := cc.2); (clear lt8); (try k_sweep); (try dsimp only); (try k_fold))
  k_with "binaryOp Add ref ref" => ((with_reducible show wpAny _ _ (binaryOp _ (Value.ref _) (Value.ref _)) _ _ _); k_dflt (refine' kmk_add_ints ?F ?N ?a ?b ?i ?j ?_ ?z; (case F => k_asm); (case N => k_asm); (case a => kmk_list); (case b => kmk_list); (case i => exact hi9); (case j => l_ints); (case z => (refine Nat.le_trans (Nat.add_le_add_right hdl _) ?_; exact Nat.le_of_ble_eq_true rfl))); intro D' ws' h' F' N' l1 hI'; (try k_lt l1); (try k_sweep))
  k_with "call ref" => (k_dflt (refine' d2_u (c2 := c27) ?hq ?hcn ?hcl ?k1 ?k2 ?k3 ?hl ?k4 ?r1 ?r2 ?hm ?o ?g0 ?g1 ?g2 ?g3 ?e0 ?e1 ?e2 ?e3 ?k5 ?kK ?kd ?ku ?_; (case k1 => k_asm); (case k2 => k_asm); (case k3 => k_asm); (case k4 => k_asm); (case r1 => repeat (first | exact Rem.head | apply Rem.tail)); (case r2 => repeat (first | exact Rem.head | apply Rem.tail)); (case hq => exact hq27); (case hcn => exact n27.1); (case hcl => first | exact Nat.ne_of_lt (by assumption) | omega); (case hl => first | assumption | omega); (case hm => k_mem); (case o => ktu_offL); (case g0 => exact (outI_b (fun _ => ⟨Int.le_trans (by decide) (pickG hg0 hg1 hg2 hg3 hg4 hg5 hg6 hg7 hg8).1, (pickG hg0 hg1 hg2 hg3 hg4 hg5 hg6 hg7 hg8).2⟩) _ _).1); (case e0 => exact (outI_b (fun _ => ⟨Int.le_trans (by decide) (pickG hg0 hg1 hg2 hg3 hg4 hg5 hg6 hg7 hg8).1, (pickG hg0 hg1 hg2 hg3 hg4 hg5 hg6 hg7 hg8).2⟩) _ _).2); (case g1 => exact (outI_b (fun _ => ⟨Int.le_trans (by decide) (pickG hg0 hg1 hg2 hg3 hg4 hg5 hg6 hg7 hg8).1, (pickG hg0 hg1 hg2 hg3 hg4 hg5 hg6 hg7 hg8).2⟩) _ _).1); (case e1 => exact (outI_b (fun _ => ⟨Int.le_trans (by decide) (pickG hg0 hg1 hg2 hg3 hg4 hg5 hg6 hg7 hg8).1, (pickG hg0 hg1 hg2 hg3 hg4 hg5 hg6 hg7 hg8).2⟩) _ _).2); (case g2 => exact (outI_b (fun _ => ⟨Int.le_trans (by decide) (pickG hg0 hg1 hg2 hg3 hg4 hg5 hg6 hg7 hg8).1, (pickG hg0 hg1 hg2 hg3 hg4 hg5 hg6 hg7 hg8).2⟩) _ _).1); (case e2 => exact (outI_b (fun _ => ⟨Int.le_trans (by decide) (pickG hg0 hg1 hg2 hg3 hg4 hg5 hg6 hg7 hg8).1, (pickG hg0 hg1 hg2 hg3 hg4 hg5 hg6 hg7 hg8).2⟩) _ _).2); (case g3 => exact (outI_b (fun _ => ⟨Int.le_trans (by decide) (pickG hg0 hg1 hg2 hg3 hg4 hg5 hg6 hg7 hg8).1, (pickG hg0 hg1 hg2 hg3 hg4 hg5 hg6 hg7 hg8).2⟩) _ _).1); (case e3 => exact (outI_b (fun _ => ⟨Int.le_trans (by decide) (pickG hg0 hg1 hg2 hg3 hg4 hg5 hg6 hg7 hg8).1, (pickG hg0 hg1 hg2 hg3 hg4 hg5 hg6 hg7 hg8).2⟩) _ _).2); (case k5 => k_asm); (case kK => first | exact rfl | assumption); (case kd => ktr_room); (case ku => ktr_units)); intro t6 h6 tk6 c6 oc6 co6 F6 N6 l6 m6; (have dd := cf6 m6 n27 l6 (by k_mem) (by k_mem) (by k_mem) (by k_mem) (by k_mem)); (have f1 := dd.1); (have f2 := dd.2.1); (have f3 := dd.2.2.1); (have f4 := dd.2.2.2.1); (have f5 := dd.2.2.2.2.1); (have f6 := dd.2.2.2.2.2); (clear m6); (try k_sweep); (try dsimp only); (try k_fold))
  k_with "call builtin:list.append" => ((with_reducible show wpAny _ _ (call (Value.builtin _) [Value.ref _, _]) _ _ _); k_dflt (refine' append_K ?k1 ?k2 ?k3 ?_ ?z; (case k1 => k_asm); (case k2 => k_asm); (case k3 => k_upd); (case z => assumption); k_whole); intro h' F' N'; (simp only [List.push_toArray] at N'); (try k_sweep))
  k_with "!UnrEndW" => (k_dflt (rename News _ _ _ _ => kN9; refine' UnrEndW.intro ?F kN9 _ ?hI ?sub ?off ⟨rfl, _, nn7 + 1, tabOf 19 4 c9, tabOf 34 4 c6, c9, c6, oc9, oc6, ?ok, ?os, ?vk, ?vg, ints_next hv7 (num_step hc7 (fun m => pickG hg0 hg1 hg2 hg3 hg4 hg5 hg6 hg7 hg8) rfl rfl rfl rfl), .inr ⟨rfl, co9⟩, .inr ⟨rfl, co6⟩, ?n1, ?n2, ?hk, ?hg, rfl⟩; (case F => k_asm); (case hI => k_subL); (case sub => k_subL); (case hk => assumption); (case hg => assumption); (case n1 => exact cc.1); (case n2 => exact dd); (case off => ktu_offL)))
  k_with "exec For Name Name cons nil" => ((rename Fr _ _ _ _ => lF'); (with_unfolding_all refine' For_turns lF' ?_; k_whole))
  k_with "pyIter str" => ((rename Fr _ _ _ _ => lF'); (rename News _ _ _ _ => lN'); (k_dflt (refine' num_loop ?hh lF' lN' ?hk ?hg ?z1 ?z2 ?turn ?done; (case hh => exact rfl); (case hk => assumption); (case hg => assumption); (case z1 => refine ⟨?_, ?_, ?_, ?_, ?_⟩ <;> first | assumption | exact Nat.ne_of_lt (by assumption) | omega); (case z2 => first | exact .inl (by assumption) | omega))); (case' turn => intro I7 i7 c7 u7 h7 tk7 o7 vs7 nn7 q17 q27 c17 c27 oc17 oc27 ok7 os7 vk7 vg7 z7a hc7 ho7 hv7 hi7 hq17 hq27 n17 n27 hK7 hG7 F7 N7; (have p1 := z7a.1); (have p2 := z7a.2.1); (have p3 := z7a.2.2.1); (have p4 := z7a.2.2.2.1); (have p5 := z7a.2.2.2.2.1); (have p6 := z7a.2.2.2.2.2.1); (have p7 := z7a.2.2.2.2.2.2); (have s1 := n17.1); (have s2 := n17.2.1); (have s3 := n17.2.2.1); (have s4 := n17.2.2.2.1); (have s5 := n17.2.2.2.2.1); (have s6 := n17.2.2.2.2.2.1); (have s7 := n17.2.2.2.2.2.2); (have v1 := n27.1); (have v2 := n27.2.1); (have v3 := n27.2.2.1); (have v4 := n27.2.2.2.1); (have v5 := n27.2.2.2.2.1); (have v6 := n27.2.2.2.2.2); (have hszv := vsz hv7 hi7 hn); (clear lF' lN'); (try dsimp only)); (case' done => intro vs8 nn8 q18 q28 c18 oc18 h8 tk8 hv8 F8 N8; (clear lF' lN'); (try dsimp only)))
  refine wpAny_call ?_
  k_dflt (refine' code_defCF (rest := rest) ?k1 ?k2 ?k3 ?k4 ?kr1 ?kr2 ?k5 ?kA ?kF ?kK ?k6 ?k7 ?k8 ?k9 ?kB ?kD ?_ ?c2 ?c3 ?c4; (case kA => exact rfl); (case kF => exact rfl); (case kK => first | exact rfl | assumption); (case k1 => k_asm); (case k2 => k_asm); (case k3 => k_asm); (case k4 => exact N); (case kr1 => exact NR); (case kr2 => exact off); (case k5 => k_asm); (case k6 => k_is); (case k7 => k_is); (case k8 => ktr_room); (case k9 => first | exact BindsTo.of_eq rfl | exact binds_K (by k_in) rfl (by k_is) rfl rfl rfl); (case kB => exact rfl); (case kD => decide +kernel); (case c2 => exact rfl); (case c3 => exact rfl); (case c4 => exact rfl); k_whole; intro g' L' h' tk' cells' HB FG' F' N' Y' B' X' T' l1 LR; (try k_lt l1); k_cells Y'; (try simp only [List.cons_append, List.nil_append] at N'); (try dsimp only); (try k_lift B'); (try k_fold); refine fold_ae ?_; intro eK AK)
  k_steps
  all_goals (unfold RestR; dsimp only; rename News _ _ _ _ => kN9; intro NR'; exact hret _ _ _ _ _ _ _ hv8 (by k_asm) (cb_drop kN9 (SubL.mem (by k_subL))) NR' (rest_offON HB NR off (by assumption) (SubL.mem (by k_subL))))
end Mine
end

section
namespace Mine
theorem kwn_PL : True := by
  k_with_none
  trivial
open Plain
noncomputable def lE (o : Option (Fin 3)) : Nat := match o with | none => 45 | some m => lC m
theorem fs_none {t : Nat → Told} {i : Nat} (h : fs t i = none) : ∀ k, fs t (i + k) = none
  | 0 => h
  | k + 1 => by
    show out (kn t (i + k)) (t (i + k)) 3 (fs t (i + k)) = none
    rw [fs_none h k]; rfl
theorem dash_mul : ∀ k : Nat, k < 20 → PySem.Txt.mul (PySem.Str.ofString "-") (k : Int) = ⟨(List.replicate k 45).toArray⟩ := by decide +kernel
theorem firsts_eq {t : Nat → Told} (H0 : ∀ m, (t 0 m).2 = true) {n : Nat} (hn : 0 < n) (hn2 : n < 20) :
    padS (loopF t n (3 * n) (0, 0) []) n = ⟨((List.range n).map fun i => lE (fs t (i + 1))).toArray⟩ := by
  have inv : Inv t 0 [] := ⟨fun i h => absurd h (Nat.not_lt_zero _), fun j hj => by
    obtain rfl : j = 0 := by omega
    exact Nat.le_refl _⟩
  have S := loopF_snd H0 (n := n) (3 * n) 0 [] (by omega) hn inv
  have e0 : it t 0 (0, 0) = (0, 0) := rfl
  rw [e0] at S
  have Fst := (loopF_fst t n (3 * n) (0, 0) []).trans (loop_fs H0 hn)
  generalize loopF t n (3 * n) (0, 0) [] = r at S Fst
  obtain ⟨r1, r2⟩ := r
  simp only at S Fst
  obtain ⟨S1, S2⟩ := S
  have pre : ∀ i, i < r2.length → lE (fs t (i + 1)) = (r2.map lC).getD i 45 := by
    intro i hi
    rw [S1 i hi, List.getElem?_eq_getElem hi]
    simp [lE, hi]
  cases r1 with
  | some m =>
    have hl : r2.length = n := by
      rcases S2 with h | ⟨h, h2⟩
      · exact h
      · have := fs_none h2 (n - (r2.length + 1))
        rw [show r2.length + 1 + (n - (r2.length + 1)) = n by omega, ← Fst] at this
        cases this
    show fS r2 = _
    unfold fS
    congr 2
    refine List.ext_getElem (by simp [hl]) fun i h1 h2 => ?_
    have hi : i < r2.length := by simpa using h1
    have := pre i hi
    simp only [List.getElem_map, List.getElem_range] at *
    rw [this]
    simp [hi]
  | none =>
    have post : ∀ i, r2.length ≤ i → i < n → fs t (i + 1) = none := by
      intro i h1 h2
      rcases S2 with h | ⟨h, h3⟩
      · omega
      · have := fs_none h3 (i - r2.length)
        rwa [show r2.length + 1 + (i - r2.length) = i + 1 by omega] at this
    have hle : r2.length ≤ n := by omega
    show fS r2 ++ PySem.Txt.mul (PySem.Str.ofString "-") ((n : Int) - (r2.length : Int)) = _
    rw [show (n : Int) - (r2.length : Int) = ((n - r2.length : Nat) : Int) by omega, dash_mul _ (by omega)]
    unfold fS
    show PySem.Str.mk _ = PySem.Str.mk _
    congr 1
    simp only [List.append_toArray]
    congr 1
    refine List.ext_getElem (by simp; omega) fun i h1 h2 => ?_
    have hi : i < n := by simpa using h2
    simp only [List.getElem_map, List.getElem_range]
    by_cases q : i < r2.length
    · rw [List.getElem_append_left (by simpa using q), pre i q]
      simp [q]
    · rw [List.getElem_append_right (by simpa using q), post i (by omega) hi]
      simp [lE]
theorem end_eq {t : Nat → Told} (H0 : ∀ m, (t 0 m).2 = true) {n : Nat} (m : Fin 3) : (loopF t (n + 1) (3 * (n + 1)) (m, n) []).1 = kn t (n + 1) m := (loopF_fst _ _ _ _ _).trans (loop_kn H0 m)
theorem last_eq {t : Nat → Told} (H0 : ∀ m, (t 0 m).2 = true) {n : Nat} (hn : 0 < n) : (loopF t n (3 * n) (0, 0) []).1 = fs t n := (loopF_fst _ _ _ _ _).trans (loop_fs H0 hn)
/-- what cut_ok asks for -/
theorem cut_HM {gI dI : Fin 3 → Fin 3 → Int} {sg : List (Fin 3)} (hz : ∀ m, dI m (sg.getD 0 2) ≠ 0) {i j : Nat} (h1 : 1 ≤ i) (h2 : i < j) (h3 : j ≤ sg.length) (he : num (tabT gI dI sg) i = num (tabT gI dI sg) j) :
    (loopF (tabT gI dI (sg.take i ++ sg.drop j)) (sg.take i ++ sg.drop j).length (3 * (sg.take i ++ sg.drop j).length) (0, 0) []).1 = fs (tabT gI dI sg) sg.length := by
  have hlen : (sg.take i ++ sg.drop j).length = i + (sg.length - j) := by
    simp only [List.length_append, List.length_take, List.length_drop]; omega
  have low : ∀ k, k < i → (sg.take i ++ sg.drop j).getD k 2 = sg.getD k 2 := by
    intro k hk
    have : k < (sg.take i).length := by simp only [List.length_take]; omega
    simp only [List.getD_eq_getElem?_getD]
    rw [List.getElem?_append_left this, List.getElem?_take_of_lt hk]
  have high : ∀ k, (sg.take i ++ sg.drop j).getD (i + k) 2 = sg.getD (j + k) 2 := by
    intro k
    have e : (sg.take i).length = i := by simp only [List.length_take]; omega
    simp only [List.getD_eq_getElem?_getD]
    rw [List.getElem?_append_right (by omega), e, Nat.add_sub_cancel_left, List.getElem?_drop]
  have tl : ∀ k, k < i → tabT gI dI (sg.take i ++ sg.drop j) k = tabT gI dI sg k := fun k hk => by
    funext m; simp only [tabT, low k hk]
  have th : ∀ k, tabT gI dI (sg.take i ++ sg.drop j) (i + k) = tabT gI dI sg (j + k) := fun k => by
    funext m; simp only [tabT, high k]
  have H0 : ∀ m, (tabT gI dI (sg.take i ++ sg.drop j) 0 m).2 = true := fun m => by
    rw [tl 0 (by omega)]
    show decide (dI m (sg.getD 0 2) ≠ 0) = true
    exact decide_eq_true (hz m)
  rw [last_eq H0 (by omega), hlen]
  obtain ⟨f1, k1⟩ := num_inj he
  have a := kn_congr i tl
  have b := fs_congr i tl
  have r := (cut_same (a.trans k1) (b.trans f1) th (sg.length - j)).2
  rw [r]
  congr 1
  omega
end Mine
end

section
namespace Mine
theorem kwn_PM : True := by
  k_with_none
  trivial
open Plain
theorem item_enc (o : Option (Fin 3)) : PySem.Txt.item (PySem.Str.ofString "-pqr") (enc o : Int) = ⟨#[lE o]⟩ := by
  rcases o with _ | m
  · decide +kernel
  · rcases fin3 m with rfl | rfl | rfl <;> decide +kernel
theorem outS_lE (o : Option (Fin 3)) : outS o = ⟨#[lE o]⟩ := by
  rcases o with _ | m
  · decide +kernel
  · exact mL_eq m
end Mine
end

section
open PySem PySem.W PyProof.Rows PySem.Spec PySem.Calls
set_option Elab.async false
set_option maxRecDepth 100000
namespace Mine
theorem kwn_PT : True := by
  k_with_none
  trivial
theorem fillPT : RW = RW ∧ KF = KF := by
  k_fill
  exact ⟨rfl, rfl⟩
set_option maxHeartbeats 0
set_option rowWalk.seconds 0
noncomputable def PieceK (a b : Str) : Prop := (a = Str.ofString "f" ∧ b = Str.ofString "f") ∨ (a = Str.ofString "I" ∧ b = Str.ofString "i") ∨ (a = ⟨#[64256]⟩ ∧ b = Str.ofString "ff") ∨ (a = ⟨#[64257]⟩ ∧ b = Str.ofString "fi") ∨ (a = ⟨#[64259]⟩ ∧ b = Str.ofString "ffi") ∨
  (∃ q : Nat, q < 6 ∧ a = ⟨#[120172 + 52 * q + 5]⟩ ∧ b = Str.ofString "f") ∨ (∃ q : Nat, q < 6 ∧ a = ⟨#[120172 + 52 * q + 8]⟩ ∧ b = Str.ofString "i") ∨ (∃ q : Nat, q < 16 ∧ a = ⟨#[65024 + q]⟩ ++ Str.ofString "F" ∧ b = Str.ofString "f")
theorem pk5 (y : Int) : PieceK ⟨#[(120172 + 52 * y.fmod 6 + 5).toNat]⟩ (Str.ofString "f") := by
  obtain ⟨n, e⟩ := Int.eq_ofNat_of_zero_le (Int.fmod_nonneg_of_pos y (show (0:Int) < 6 by decide))
  have h2 := Int.fmod_lt_of_pos y (show (0:Int) < 6 by decide)
  rw [e] at h2 ⊢
  exact .inr (.inr (.inr (.inr (.inr (.inl ⟨n, Int.ofNat_lt.mp h2, rfl, rfl⟩)))))
theorem pk8 (y : Int) : PieceK ⟨#[(120172 + 52 * y.fmod 6 + 8).toNat]⟩ (Str.ofString "i") := by
  obtain ⟨n, e⟩ := Int.eq_ofNat_of_zero_le (Int.fmod_nonneg_of_pos y (show (0:Int) < 6 by decide))
  have h2 := Int.fmod_lt_of_pos y (show (0:Int) < 6 by decide)
  rw [e] at h2 ⊢
  exact .inr (.inr (.inr (.inr (.inr (.inr (.inl ⟨n, Int.ofNat_lt.mp h2, rfl, rfl⟩))))))
theorem pkv (y : Int) : PieceK (⟨#[(65024 + y.fmod 16).toNat]⟩ ++ Str.ofString "F") (Str.ofString "f") := by
  obtain ⟨n, e⟩ := Int.eq_ofNat_of_zero_le (Int.fmod_nonneg_of_pos y (show (0:Int) < 16 by decide))
  have h2 := Int.fmod_lt_of_pos y (show (0:Int) < 16 by decide)
  rw [e] at h2 ⊢
  exact .inr (.inr (.inr (.inr (.inr (.inr (.inr ⟨n, Int.ofNat_lt.mp h2, rfl, rfl⟩))))))
theorem or8 {a : Int} (h0 : 0 ≤ a) (h : a < 8) : a = 0 ∨ a = 1 ∨ a = 2 ∨ a = 3 ∨ a = 4 ∨ a = 5 ∨ a = 6 ∨ a = 7 := by
  have k : ∀ n : Fin 8, (n.1 : Int) = 0 ∨ (n.1 : Int) = 1 ∨ (n.1 : Int) = 2 ∨ (n.1 : Int) = 3 ∨ (n.1 : Int) = 4 ∨ (n.1 : Int) = 5 ∨ (n.1 : Int) = 6 ∨ (n.1 : Int) = 7 := by decide +kernel
  obtain ⟨n, rfl⟩ := Int.eq_ofNat_of_zero_le h0
  exact k ⟨n, Int.ofNat_lt.mp h⟩
local macro_rules | `(tactic| omega) => `(tactic| exact or8 (by assumption) (by assumption))
theorem piece_ok {w : World} {x : Int} {tx : Tok} (h0 : 0 ≤ x) (h1 : x < 1000000000) {mean : ExcName → Option Value} {mg mb : Str → Option Value} {dp un : Nat} {gd : Option (List Code)} {cn : Str} {cs : Scope} {a : Addr} {ccd : Value} {cl : List (Str × Addr)} {outer : List Env} {A₀ : Around} {base h₀ : Heap} {L : Addr} {m : Str → Option Value} {s : Shared} {Q E : Value → Shared → Prop} {rest : List (Addr × Obj)}
    (B : Below A₀ base outer h₀) (F : Fr h₀ L s.heap m) (X : (KF w.params).In h₀) (NR : News h₀ L s.heap rest) (T : Top topProg LN mean mg mb h₀) (hk : cs.kind = .function) (hd : dp + 4 < recursionLimit) (hu : un + 32 < cLine)
    (hret : ∀ P a b ta tb h' tk', PieceK a b → Fr h₀ L h' m → News h₀ L h' ((P, tup2 (.str a ta) (.str b tb)) :: rest) → (∀ p ∈ rest, p.1 ≠ P) → Q (.ref P) { s with heap := h', toks := tk' }) :
    wpAny (model PW w) (ktrTop dp un gd cn cs L a ccd cl outer) (call (.ref 285) [.int x tx]) Q E s := by
  have N : News h₀ L s.heap [] := News.nil
  have off : ∀ p ∈ rest, p.1 ∉ ([] : List (Addr × Obj)).map (·.1) := fun _ _ q => nomatch q
  k_with_none
  refine wpAny_call ?_
  k_dflt (refine' code_defPF (rest := rest) ?k1 ?k2 ?k3 ?k4 ?kr1 ?kr2 ?k5 ?kA ?kF ?kK ?k6 ?k7 ?k8 ?k9 ?kB ?_ ?c2 ?c3 ?c4 ?c5; (case kA => exact rfl); (case kF => exact rfl); (case kK => first | exact rfl | assumption); (case k1 => k_asm); (case k2 => k_asm); (case k3 => k_asm); (case k4 => exact N); (case kr1 => exact NR); (case kr2 => exact off); (case k5 => k_asm); (case k6 => k_is); (case k7 => k_is); (case k8 => ktr_room); (case k9 => first | exact BindsTo.of_eq rfl | exact binds_K (by k_in) rfl (by k_is) rfl rfl rfl); (case c5 => decide); (case kB => exact locs rfl); (case c2 => exact rfl); (case c3 => exact rfl); (case c4 => exact rfl); k_whole; intro g' L' h' HB FG' F' N' B' X' T' l1 LR; (try k_lt l1); (try dsimp only); (try k_lift B'); (try k_fold); refine fold_ae ?_; intro eK AK)
  k_steps
  all_goals (unfold RestR; dsimp only; rename News _ _ _ _ => kN9; intro NR'; refine' hret _ _ _ _ _ _ _ ?pk ?f (news_app (a := [_]) ?n NR') ?lt; (case n => k_dflt (exact cb_drop kN9 (SubL.mem (by k_subL)))); (case f => k_asm); (case lt => exact rest_ne HB NR off (by assumption) (by k_dflt k_mem)); (case pk => k_dflt (first | exact pk5 _ | exact pk8 _ | exact pkv _ | exact .inl ⟨rfl, rfl⟩ | exact .inr (.inl ⟨rfl, rfl⟩) | exact .inr (.inr (.inl ⟨rfl, rfl⟩)) | exact .inr (.inr (.inr (.inl ⟨rfl, rfl⟩))) | exact .inr (.inr (.inr (.inr (.inl ⟨rfl, rfl⟩)))))))
end Mine
end

section
open PySem
namespace Mine
theorem kwn_PU : True := by
  k_with_none
  trivial
theorem piece_sg {a b : Str} (h : PieceK a b) : ∃ l : List (_root_.Fin 3), b = tapeS l ∧ 1 ≤ l.length ∧ l.length ≤ 3 := by
  have f1 : Str.ofString "f" = tapeS [0] := by decide +kernel
  have f2 : Str.ofString "i" = tapeS [1] := by decide +kernel
  have f3 : Str.ofString "ff" = tapeS [0, 0] := by decide +kernel
  have f4 : Str.ofString "fi" = tapeS [0, 1] := by decide +kernel
  have f5 : Str.ofString "ffi" = tapeS [0, 0, 1] := by decide +kernel
  rcases h with ⟨_, rfl⟩ | ⟨_, rfl⟩ | ⟨_, rfl⟩ | ⟨_, rfl⟩ | ⟨_, rfl⟩ | ⟨_, _, _, rfl⟩ | ⟨_, _, _, rfl⟩ | ⟨_, _, _, rfl⟩
  · exact ⟨_, f1, by decide, by decide⟩
  · exact ⟨_, f2, by decide, by decide⟩
  · exact ⟨_, f3, by decide, by decide⟩
  · exact ⟨_, f4, by decide, by decide⟩
  · exact ⟨_, f5, by decide, by decide⟩
  · exact ⟨_, f1, by decide, by decide⟩
  · exact ⟨_, f2, by decide, by decide⟩
  · exact ⟨_, f1, by decide, by decide⟩
end Mine
end

section
open PySem PySem.W PyProof.Rows PySem.Spec PySem.Calls PyProof.V
set_option maxRecDepth 100000
namespace Mine
theorem kwn_PV : True := by
  k_with_none
  trivial
theorem lt6 : ∀ q : Nat, q < 6 → q = 0 ∨ q = 1 ∨ q = 2 ∨ q = 3 ∨ q = 4 ∨ q = 5 := by decide
theorem d5_hits : (∀ q : Nat, q < 6 → lookup (PyData.int ((120172 + 52 * q + 5 : Nat) : Int)) D5 = some (.str (Str.ofString "f"))) ∧ (∀ q : Nat, q < 6 → lookup (PyData.int ((120172 + 52 * q + 8 : Nat) : Int)) D5 = some (.str (Str.ofString "i"))) ∧
    lookup (PyData.int (64256 : Int)) D5 = some (.str (Str.ofString "ff")) ∧ lookup (PyData.int (64257 : Int)) D5 = some (.str (Str.ofString "fi")) ∧ lookup (PyData.int (64259 : Int)) D5 = some (.str (Str.ofString "ffi")) := by
  refine ⟨fun q hq => ?_, fun q hq => ?_, by kernel_rfl, by kernel_rfl, by kernel_rfl⟩
  · rcases lt6 q hq with rfl | rfl | rfl | rfl | rfl | rfl <;> kernel_rfl
  · rcases lt6 q hq with rfl | rfl | rfl | rfl | rfl | rfl <;> kernel_rfl
theorem b1_facts : (∀ q : Nat, q < 16 → b1L.contains ((65024 + q : Nat) : Int) = true) ∧ b1L.contains 102 = false ∧ b1L.contains 70 = false ∧ b1L.contains 73 = false ∧ b1L.contains 64256 = false ∧ b1L.contains 64257 = false ∧ b1L.contains 64259 = false ∧
    (∀ q : Nat, q < 6 → b1L.contains ((120172 + 52 * q + 5 : Nat) : Int) = false ∧ b1L.contains ((120172 + 52 * q + 8 : Nat) : Int) = false) := by
  refine ⟨?_, ?_, ?_, ?_, ?_, ?_, ?_, ?_⟩ <;> decide +kernel
end Mine
end

section
open PySem PySem.W PyProof.Rows PySem.Spec PySem.Calls
set_option Elab.async false
set_option maxRecDepth 100000
namespace Mine
theorem kwn_GV : True := by
  k_with_none
  trivial
theorem fillGV : RW = RW ∧ KF = KF := by
  k_fill
  exact ⟨rfl, rfl⟩
set_option maxHeartbeats 0
set_option rowWalk.seconds 0
theorem ints_four {ys : List Value} {f : Int → Int} (h : IntsAre ys (List.map f (rangeKs 0 (4 - 0 : Int).toNat))) : ∃ t0 t1 t2 t3, ys = [.int (f 0) t0, .int (f 1) t1, .int (f 2) t2, .int (f 3) t3] := by
  have e : rangeKs 0 (4 - 0 : Int).toNat = [0, 1, 2, 3] := by decide
  rw [e] at h
  obtain _ | ⟨_, t0, h⟩ := h
  obtain _ | ⟨_, t1, h⟩ := h
  obtain _ | ⟨_, t2, h⟩ := h
  obtain _ | ⟨_, t3, h⟩ := h
  cases h
  exact ⟨t0, t1, t2, t3, rfl⟩
theorem fmodB {c : Prop} [Decidable c] (x y : Int) : 0 ≤ (if c then x.fmod 1000000000 else y.fmod 1000000000) ∧ (if c then x.fmod 1000000000 else y.fmod 1000000000) < 1000000000 := by
  split
  · exact ⟨Int.fmod_nonneg_of_pos _ (by decide), Int.fmod_lt_of_pos _ (by decide)⟩
  · exact ⟨Int.fmod_nonneg_of_pos _ (by decide), Int.fmod_lt_of_pos _ (by decide)⟩
theorem lt4 {k : Int} (h : k < 0 + ((4 - 0 : Int).toNat : Int)) : k < ((1 + 1 + 1 + 1 : Nat) : Int) := h
theorem lt63 {k : Int} (h : k < 0 + ((4 - 0 : Int).toNat : Int)) : k < 2 ^ 63 := Int.lt_trans h (by decide)
local macro_rules | `(tactic| omega) => `(tactic| first | exact lt4 (by assumption) | exact lt63 (by assumption))
theorem given_ok {w : World} {sc : Addr} {vs : List Value} {ks : List Int} {mean : ExcName → Option Value} {mg mb : Str → Option Value} {dp un : Nat} {gd : Option (List Code)} {cn : Str} {cs : Scope} {a : Addr} {ccd : Value} {cl : List (Str × Addr)} {outer : List Env} {A₀ : Around} {base h₀ : Heap} {L : Addr} {m : Str → Option Value} {s : Shared} {Q E : Value → Shared → Prop} {rest : List (Addr × Obj)} (hl : h₀.IsList sc vs.toArray) (hi : IntsAre vs ks) (hz : ks.length ≤ 63)
    (B : Below A₀ base outer h₀) (F : Fr h₀ L s.heap m) (X : (KF w.params).In h₀) (NR : News h₀ L s.heap rest) (T : Top topProg LN mean mg mb h₀) (hk : cs.kind = .function) (hd : dp + 4 < recursionLimit) (hu : un + 32 < cLine)
    (hret : ∀ G n g0 g1 g2 g3 t0 t1 t2 t3 h' tk', (0 ≤ g0 ∧ g0 < 1000000000) → (0 ≤ g1 ∧ g1 < 1000000000) → (0 ≤ g2 ∧ g2 < 1000000000) → (0 ≤ g3 ∧ g3 < 1000000000) → Fr h₀ L h' m → News h₀ L h' ((G, W.listOf #[.int g0 t0, .int g1 t1, .int g2 t2, .int g3 t3] n) :: rest) → (∀ p ∈ rest, p.1 ≠ G) → Q (.ref G) { s with heap := h', toks := tk' }) :
    wpAny (model PW w) (ktrTop dp un gd cn cs L a ccd cl outer) (call (.ref 278) [.ref sc]) Q E s := by
  have N : News h₀ L s.heap [] := News.nil
  have off : ∀ p ∈ rest, p.1 ∉ ([] : List (Addr × Obj)).map (·.1) := fun _ _ q => nomatch q
  k_with_none
  refine wpAny_call ?_
  k_dflt (refine' code_defCF (rest := rest) ?k1 ?k2 ?k3 ?k4 ?kr1 ?kr2 ?k5 ?kA ?kF ?kK ?k6 ?k7 ?k8 ?k9 ?kB ?kD ?_ ?c2 ?c3 ?c4; (case kA => exact rfl); (case kF => exact rfl); (case kK => first | exact rfl | assumption); (case k1 => k_asm); (case k2 => k_asm); (case k3 => k_asm); (case k4 => exact N); (case kr1 => exact NR); (case kr2 => exact off); (case k5 => k_asm); (case k6 => k_is); (case k7 => k_is); (case k8 => ktr_room); (case k9 => first | exact BindsTo.of_eq rfl | exact binds_K (by k_in) rfl (by k_is) rfl rfl rfl); (case kB => exact rfl); (case kD => decide +kernel); (case c2 => exact rfl); (case c3 => exact rfl); (case c4 => exact rfl); k_whole; intro g' L' h' tk' cells' HB FG' F' N' Y' B' X' T' l1 LR; (try k_lt l1); k_cells Y'; (try simp only [List.cons_append, List.nil_append] at N'); (try dsimp only); (try k_lift B'); (try k_fold); refine fold_ae ?_; intro eK AK)
  have hlG : g'.IsList sc vs.toArray := by
    obtain ⟨o, ho, r⟩ := hl
    exact ⟨o, HB _ _ (F.keep _ _ ho) (fun q => nomatch q), r⟩
  k_steps
  all_goals (unfold RestR; dsimp only; rename News _ _ _ _ => kN9; intro NR'; rename IntsAre _ _ => hI9; obtain ⟨t0, t1, t2, t3, e9⟩ := ints_four hI9; subst e9; refine hret _ _ _ _ _ _ t0 t1 t2 t3 _ _ (fmodB _ _) (fmodB _ _) (fmodB _ _) (fmodB _ _) (by k_asm) (news_app (a := [_]) (cb_drop kN9 (SubL.mem (by k_subL))) NR') (rest_ne HB NR off (by assumption) (by k_dflt k_mem)))
end Mine
end

section
open PySem PySem.W PyProof.Rows PySem.Spec PySem.Calls PyProof.V
open PyProof.Rows.LCg (NsObj Off3 Off1 lst ns_obj fr_but news_but lst_snoc)
set_option Elab.async false
set_option maxRecDepth 100000
namespace Mine
theorem kwn_LC : True := by
  k_with_none
  trivial
noncomputable abbrev twoE (elt t0 i0 t1 i1 c1 : PySem.Expr) (scope : Scope) (pos : Pos) : PySem.Expr := .ListComp elt [⟨t0, i0, [], 0⟩, ⟨t1, i1, [c1], 0⟩] scope pos
noncomputable def bodyO (elt t0 i0 t1 i1 c1 : PySem.Expr) (scope : Scope) (pos : Pos) (it acc : Value) (env : Env) (v : Value) : Sem Fin := do
  letOwnedTupleGo t0 it v
  assign t0 env v
  let x ← eval i1 env
  standAt i1.pos
  let x ← foldedSetIterable i1 env x
  let _ ← runOwn (.compStart (twoE elt t0 i0 t1 i1 c1 scope pos) 1 (← holding [x] (pyIter x)) acc env) env
  again (.compLoop (twoE elt t0 i0 t1 i1 c1 scope pos) 0 it acc env)
theorem bodyO_eq (elt t0 i0 t1 i1 c1 : PySem.Expr) (scope : Scope) (pos : Pos) (it acc : Value) (env : Env) :
    compTurn (twoE elt t0 i0 t1 i1 c1 scope pos) 0 it acc env = (standAt i0.pos >>= fun _ => pyNext it >>= fun r => match r with
      | none => pure (.done .next)
      | some v => bodyO elt t0 i0 t1 i1 c1 scope pos it acc env v) := by
  unfold compTurn
  dsimp only [List.getElem?_cons_zero, List.getElem?_cons_succ]
  simp only [List.forIn_nil, bne_self_eq_false, Bool.false_eq_true, if_false, if_true, pure_bind]
  rfl
noncomputable def bodyI (elt t0 i0 t1 i1 c1 : PySem.Expr) (scope : Scope) (pos : Pos) (it acc : Value) (env : Env) (v : Value) : Sem Fin := do
  letOwnedTupleGo t1 it v
  assign t1 env v
  let ok ← isTrue c1 env (eval c1 env)
  if ok then
    let x ← eval elt env
    let _ ← call (.builtin "list.append") [acc, x]
  again (.compLoop (twoE elt t0 i0 t1 i1 c1 scope pos) 1 it acc env)
theorem bodyI_eq (elt t0 i0 t1 i1 c1 : PySem.Expr) (scope : Scope) (pos : Pos) (it acc : Value) (env : Env) :
    compTurn (twoE elt t0 i0 t1 i1 c1 scope pos) 1 it acc env = (standAt i1.pos >>= fun _ => pyNext it >>= fun r => match r with
      | none => pure (.done .next)
      | some v => bodyI elt t0 i0 t1 i1 c1 scope pos it acc env v) := by
  unfold compTurn
  dsimp only [List.getElem?_cons_zero, List.getElem?_cons_succ]
  simp only [List.forIn_cons, List.forIn_nil, bne_self_eq_false, Bool.false_eq_true, if_false, if_true, pure_bind, bind_assoc]
  rfl
section
variable {prog : Program} {w : World} {A : Around} {E : Value → Shared → Prop} {R : Result → Shared → Prop} {s : Shared}
/-- the inner loop's start: its iterator is asked for again, or not -/
theorem start_in {elt t0 i0 t1 i1 c1 : PySem.Expr} {scope : Scope} {pos : Pos} {it acc : Value} {env : Env}
    (h0 : codeAny (model prog w) A (.compLoop (twoE elt t0 i0 t1 i1 c1 scope pos) 1 it acc env) R s)
    (h : wpAny (model prog w) A (pyIter it) (fun it' s' => codeAny (model prog w) A (.compLoop (twoE elt t0 i0 t1 i1 c1 scope pos) 1 it' acc env) R s') (notedBy (model prog w) A env fun x s' => R (.error x) s') s) :
    codeAny (model prog w) A (.compStart (twoE elt t0 i0 t1 i1 c1 scope pos) 1 it acc env) R s := by
  refine codeAny_of_tree ?_
  show wpAny _ _ ((compStart (twoE elt t0 i0 t1 i1 c1 scope pos) 1 it acc env).onRaise (fun x => do noteFrame x env; standAt theWindowsPlace)) _ _ s
  refine wpAny_notedAt ?_
  unfold compStart
  show wpAny _ _ (ask >>= _) _ _ s
  refine wpAny_bind (wpAny_askSetting (wpAny_ite ?_))
  split
  · exact wpAny_bind (wpAny_pure (wpAny_pure (And.intro rfl h0)))
  · refine wpAny_bind (wpAny_rule ?_)
    show wpAny _ _ (standAt i1.pos >>= _) _ _ s
    exact wpAny_bind (wpAny_standAt (wpAny_bind (wpAny_mono h (fun it' s' h' => wpAny_pure (And.intro rfl h')) fun _ _ x => x)))
end
end Mine
end

section
open PySem PySem.W PyProof.Rows PySem.Spec PySem.Calls PyProof.V
open PyProof.Rows.LCg (NsObj Off3 Off1 lst ns_obj fr_but news_but lst_snoc)
set_option Elab.async false
set_option maxRecDepth 100000
namespace Mine
theorem kwn_LD : True := by
  k_with_none
  trivial
theorem fillLD : RW = RW ∧ KF = KF := by
  k_fill
  exact ⟨rfl, rfl⟩
set_option maxHeartbeats 0
set_option rowWalk.seconds 0
noncomputable def mapsTo (w : World) (c : Nat) : Option Str → Prop
  | none => b1L.contains (c : Int) = true
  | some v => b1L.contains (c : Int) = false ∧ ∀ (news : List (Addr × Obj)) (t : Tok), CallOk w 102 [.str ⟨#[c]⟩ t] 1 news (fun t => .str v t)
theorem sign_turn {w : World} {mean : ExcName → Option Value} {mg mb : Str → Option Value} {dp un : Nat} {gd : Option (List Code)} {cn : Str} {cs : Scope} {a : Addr} {ccd : Value} {cl : List (Str × Addr)} {outer : List Env} {A₀ : Around} {base h₀ : Heap} {L : Addr} {m : Str → Option Value}   {s : Shared} {scope : Scope} {pos : Pos} {env : Env} {cle : List (Str × Addr)} {t0 i0 : PySem.Expr} {px p1 e1 e2 e3 c1 c2 c3 c4 : Pos} {I C D : Addr} {k i : Nat} {ys : List Value} {news : List (Addr × Obj)} {c : Nat} {x : Str} {r : Option Str} {S : List (Addr × Obj) → Prop} {St : Nat → Heap → Prop} {Fin : List Value → List (Addr × Obj) → Prop}
    (hkind : scope.kind = .function) (kx : scope.names.lookup (Str.ofString "sign") = some .local) (f1 : (compEnvC scope cle C env).kindOf (Str.ofString "in_table_b1") = some .globalImplicit) (f2 : (compEnvC scope cle C env).kindOf (Str.ofString "map_table_b3") = some .globalImplicit) (hge : env.globals = mainGlobals) (B : Below A₀ base outer h₀) (X : (KF w.params).In h₀) (T : Top topProg LN mean mg mb h₀) (hk : cs.kind = .function) (hd : dp + 4 < recursionLimit) (hu : un + 32 < cLine)
    (hIC : I ≠ C) (hID : I ≠ D) (hDC : D ≠ C) (hys : ys.length ≤ 100) (hc : x.cps[i]? = some c) (hm : mapsTo w c r)
    (next : ∀ t, XRest PW w (ktrTop dp un gd cn cs L a ccd cl outer) h₀ L m s I C D (bodyI (.Call (.Name (Str.ofString "map_table_b3") e1) [.Name (Str.ofString "sign") e2] [] e3) t0 i0 (.Name (Str.ofString "sign") px) (.Name (Str.ofString "typed") p1) (.UnaryOp .Not (.Call (.Name (Str.ofString "in_table_b1") c1) [.Name (Str.ofString "sign") c2] [] c3) c4) scope pos (.ref I) (.ref D) (compEnvC scope cle C env)) (.compLoop (twoE (.Call (.Name (Str.ofString "map_table_b3") e1) [.Name (Str.ofString "sign") e2] [] e3) t0 i0 (.Name (Str.ofString "sign") px) (.Name (Str.ofString "typed") p1) (.UnaryOp .Not (.Call (.Name (Str.ofString "in_table_b1") c1) [.Name (Str.ofString "sign") c2] [] c3) c4) scope pos) 1 (.ref I) (.ref D) (compEnvC scope cle C env)) S (SignAt x) St Fin k (i + 1) (match r with | none => ys | some v => ys ++ [.str v t]) news) :
    XRest PW w (ktrTop dp un gd cn cs L a ccd cl outer) h₀ L m s I C D (bodyI (.Call (.Name (Str.ofString "map_table_b3") e1) [.Name (Str.ofString "sign") e2] [] e3) t0 i0 (.Name (Str.ofString "sign") px) (.Name (Str.ofString "typed") p1) (.UnaryOp .Not (.Call (.Name (Str.ofString "in_table_b1") c1) [.Name (Str.ofString "sign") c2] [] c3) c4) scope pos (.ref I) (.ref D) (compEnvC scope cle C env)) (.compLoop (twoE (.Call (.Name (Str.ofString "map_table_b3") e1) [.Name (Str.ofString "sign") e2] [] e3) t0 i0 (.Name (Str.ofString "sign") px) (.Name (Str.ofString "typed") p1) (.UnaryOp .Not (.Call (.Name (Str.ofString "in_table_b1") c1) [.Name (Str.ofString "sign") c2] [] c3) c4) scope pos) 1 (.ref I) (.ref D) (compEnvC scope cle C env)) S (SignAt x) St Fin (k + 1) i ys news := by
  intro v oI oC m₂ h tk E' hP ho F N off hS hst
  obtain ⟨c', u, hc', rfl⟩ := hP
  obtain rfl : c' = c := Option.some.inj (hc'.symm.trans hc)
  have hn : (compEnvC scope cle C env).scope.kind = .function := by simp [compEnvC, relabel, hkind]
  have hg1 : nsIn (KF w.params) mainGlobals (Str.ofString "in_table_b1") = some (some (.ref 56)) := by k_is
  have hg2 : nsIn (KF w.params) mainGlobals (Str.ofString "map_table_b3") = some (some (.ref 102)) := by k_is
  have x0 : XAt h₀ L m I oI C D ys news m₂ h := ⟨oC, F, ho, N⟩
  show wpAny _ _ (letOwnedTupleGo (.Name (Str.ofString "sign") px) (.ref I) (.str ⟨#[c']⟩ u) >>= _) _ _ _
  refine wpAny_bind (wpAny_of_eq (show letOwnedTupleGo (.Name (Str.ofString "sign") px) (.ref I) (.str ⟨#[c']⟩ u) = pure () from rfl) ?_)
  refine wpAny_bind (put_name (env := (compEnvC scope cle C env)) (lookup_relabel_local kx) hn x0.ns fun h2 tk2 n2 kp2 => ?_)
  obtain ⟨oC2, F2, ho2, N2⟩ := x0.store n2 kp2 hIC hDC off
  have em : upd (Str.ofString "sign") (.str ⟨#[c']⟩ u) m₂ (Str.ofString "sign") = some (.str ⟨#[c']⟩ u) := by simp [upd]
  refine wpAny_bind (wpAny_isTrue_Not ?_)
  show wpAny _ _ (eval (.Call (.Name (Str.ofString "in_table_b1") c1) [.Name (Str.ofString "sign") c2] [] c3) (compEnvC scope cle C env) >>= fun v => standAt c3 >>= fun _ => holding [v] (truthy v)) _ _ _
  refine wpAny_bind (Call_ (LCgL.ld_global F2 X T hg1 ?_ hge hn f1))
  refine callWith_K X (by k_is) ?_
  refine spliced_more (LCgL.ld_own N2 (.tail _ (.head _)) ho2 em ?_ hn (lookup_relabel_local kx))
  refine spliced_none ⟨X.keeps F2.keep, ?_⟩
  refine b1_call c' u _ _ _ _ _ _ _ _ _ _ _ _ _ _ _ _ _ _ _ _ B F2 X N2 T hk (by omega) (by omega) fun t3 h3 tk3 F3 N3 => ?_
  refine wpAny_bind (wpAny_standAt (wpAny_holding (wpAny_truthy_bool ?_)))
  cases r with
  | none =>
    have hm' : b1L.contains (c' : Int) = true := hm
    rw [hm']
    exact wpAny_pure ⟨rfl, _, _, oC2, _, _, _, rfl, F3, ho2, N3, off, hS, next 0⟩
  | some v =>
    obtain ⟨hm1, hm2⟩ := hm
    rw [hm1]
    show wpAny _ _ (eval (.Call (.Name (Str.ofString "map_table_b3") e1) [.Name (Str.ofString "sign") e2] [] e3) (compEnvC scope cle C env) >>= fun x => call (.builtin "list.append") [.ref D, x] >>= fun _ => again _) _ _ _
    refine wpAny_bind ((Call_ (LCgL.ld_global F3 X T hg2 ?_ hge hn f2)))
    refine callWith_K X (by k_is) ?_
    refine spliced_more (LCgL.ld_own N3 (.tail _ (.head _)) ho2 em ?_ hn (lookup_relabel_local kx))
    refine spliced_none ⟨X.keeps F3.keep, ?_⟩
    refine hm2 _ u _ _ _ _ _ _ _ _ _ _ _ _ _ _ _ _ _ _ _ _ B F3 X N3 T hk (by omega) (by omega) fun t5 h5 tk5 F5 N5 => ?_
    have x5 : XAt h₀ L m I oI C D ys news _ h5 := ⟨oC2, F5, ho2, N5⟩
    refine wpAny_bind (push_item (by have z : (100 : Nat) ≤ sizeLine := by decide
                                     exact Nat.le_trans hys z) x5 off hID (Ne.symm hDC) fun v4 h4 x4 => ?_)
    obtain ⟨oC4, F4, ho4, N4⟩ := x4
    exact wpAny_pure ⟨rfl, _, _, oC4, _, _, _, rfl, F4, ho4, N4, off, hS, next t5⟩
end Mine
end

section
open PySem PySem.W PyProof.Rows PySem.Spec PySem.Calls PyProof.V
open PyProof.Rows.LCg (NsObj Off3 Off1 lst ns_obj fr_but news_but lst_snoc)
set_option Elab.async false
set_option maxRecDepth 100000
namespace Mine
theorem kwn_LE : True := by
  k_with_none
  trivial
theorem fillLE : RW = RW ∧ KF = KF := by
  k_fill
  exact ⟨rfl, rfl⟩
set_option maxHeartbeats 0
set_option rowWalk.seconds 0
noncomputable def PieceM (w : World) (a b : Str) : Prop := (∃ c, a = ⟨#[c]⟩ ∧ mapsTo w c (some b)) ∨ (∃ c d, a = ⟨#[c, d]⟩ ∧ mapsTo w c none ∧ mapsTo w d (some b))
theorem pieceM {w : World} {a b : Str} (h : PieceK a b) : PieceM w a b := by
  obtain ⟨f0, f1, f2, f3, f4, f5, f6, f7⟩ := b1_facts
  obtain ⟨d1, d2, d3, d4, d5⟩ := d5_hits
  rcases h with ⟨rfl, rfl⟩ | ⟨rfl, rfl⟩ | ⟨rfl, rfl⟩ | ⟨rfl, rfl⟩ | ⟨rfl, rfl⟩ | ⟨q, hq, rfl, rfl⟩ | ⟨q, hq, rfl, rfl⟩ | ⟨q, hq, rfl, rfl⟩
  · exact .inl ⟨102, by decide +kernel, f1, fun news t => b3_low_f t⟩
  · exact .inl ⟨73, by decide +kernel, f3, fun news t => b3_low_I t⟩
  · exact .inl ⟨64256, rfl, f4, fun news t => b3_hit _ _ d3 t⟩
  · exact .inl ⟨64257, rfl, f5, fun news t => b3_hit _ _ d4 t⟩
  · exact .inl ⟨64259, rfl, f6, fun news t => b3_hit _ _ d5 t⟩
  · exact .inl ⟨_, rfl, (f7 q hq).1, fun news t => b3_hit _ _ (d1 q hq) t⟩
  · exact .inl ⟨_, rfl, (f7 q hq).2, fun news t => b3_hit _ _ (d2 q hq) t⟩
  · exact .inr ⟨65024 + q, 70, by show Str.mk _ = Str.mk _; rfl, f0 q hq, f2, fun news t => b3_low_F t⟩
theorem iter2 {prog : Program} {w : World} {A : Around} {E : Value → Shared → Prop} {s : Shared} {x : Str} {t : Tok} {Q : Value → Shared → Prop}
    (hQ : ∀ ty : String, (∀ A' : Around, A'.handled = none → ∀ I, Walks prog w A' I [I] [I] x.cps.size (SignAt x) (fun i h => h.IsStrIter I ty x t i)) → Q (.ref s.heap.objs.size) { s with heap := s.heap.push { cls := .type ty, data := .fields #[.str x t, .int 0 0] } }) : wpAny (model prog w) A (pyIter (.str x t)) Q E s := by
  cases ha : x.cps.all (· < 128)
  · exact wpAny_pyIter_wide ha (hQ _ fun A' hA I => Walks.strWide hA I x t)
  · exact wpAny_pyIter_ascii ha (hQ _ fun A' hA I => Walks.strAscii hA I x t)
theorem inner_loop {w : World} {mean : ExcName → Option Value} {mg mb : Str → Option Value} {dp un : Nat} {gd : Option (List Code)} {cn : Str} {cs : Scope} {a : Addr} {ccd : Value} {cl : List (Str × Addr)} {outer : List Env} {A₀ : Around} {base h₀ : Heap} {L : Addr} {m : Str → Option Value}   {s : Shared} {scope : Scope} {pos : Pos} {env : Env} {cle : List (Str × Addr)} {t0 i0 : PySem.Expr} {px p1 e1 e2 e3 c1 c2 c3 c4 : Pos} {I C D : Addr} {ys : List Value} {news : List (Addr × Obj)} {mC : Str → Option Value} {x b : Str} {tx : Tok} {ty : String} {R : Result → Shared → Prop}
    (hkind : scope.kind = .function) (kx : scope.names.lookup (Str.ofString "sign") = some .local) (f1 : (compEnvC scope cle C env).kindOf (Str.ofString "in_table_b1") = some .globalImplicit) (f2 : (compEnvC scope cle C env).kindOf (Str.ofString "map_table_b3") = some .globalImplicit) (hge : env.globals = mainGlobals) (B : Below A₀ base outer h₀) (X : (KF w.params).In h₀) (T : Top topProg LN mean mg mb h₀) (hk : cs.kind = .function) (hd : dp + 4 < recursionLimit) (hu : un + 32 < cLine)
    (hIC : I ≠ C) (hID : I ≠ D) (hDC : D ≠ C) (hys : ys.length ≤ 100) (hm : PieceM w x b) (W : Walks PW w (ktrTop dp un gd cn cs L a ccd cl outer) I [I] [I] x.cps.size (SignAt x) (fun i h => h.IsStrIter I ty x tx i))
    (hIL : L ≠ I) (hI₀ : h₀.get? I = none) (hCL : C ≠ L) (hC₀ : h₀.get? C = none) (st : s.heap.IsStrIter I ty x tx 0) (F : Fr h₀ L s.heap m) (hn : s.heap.Ns C mC) (N : News h₀ L s.heap ((D, lst ys) :: news)) (off : Off3 I C D news)
    (hdone : ∀ t h tk mC, Fr h₀ L h m → h.Ns C mC → News h₀ L h ((D, lst (ys ++ [.str b t])) :: news) → R (.ok .next) { s with heap := h, toks := tk }) :
    codeAny (model PW w) (ktrTop dp un gd cn cs L a ccd cl outer) (.compLoop (twoE (.Call (.Name (Str.ofString "map_table_b3") e1) [.Name (Str.ofString "sign") e2] [] e3) t0 i0 (.Name (Str.ofString "sign") px) (.Name (Str.ofString "typed") p1) (.UnaryOp .Not (.Call (.Name (Str.ofString "in_table_b1") c1) [.Name (Str.ofString "sign") c2] [] c3) c4) scope pos) 1 (.ref I) (.ref D) (compEnvC scope cle C env)) R s := by
  refine compX (S := fun _ => True) (Fin := fun ys' nw => nw = news ∧ ∃ t, ys' = ys ++ [.str b t]) (bodyI_eq _ _ _ _ _ _ scope pos _ _ _) W (fun i h q => by obtain ⟨o, e, _⟩ := q; exact ⟨o, e⟩) (fun i h h' o nw q e1 e2 _ _ _ => ?_) hIL hI₀ hCL hC₀ hIC hID st F hn N off trivial ?_ (fun h tk mC' ys' nw F' hn' N' _ _ hf => ?_)
  · obtain ⟨o', e, r⟩ := q
    rw [e1] at e; cases e
    exact ⟨_, e2, r⟩
  · rcases hm with ⟨c, rfl, m1⟩ | ⟨c, d, rfl, m1, m2⟩
    · exact sign_turn (k := 0) (i := 0) hkind kx f1 f2 hge B X T hk hd hu hIC hID hDC hys rfl m1 fun t => ⟨rfl, t, rfl⟩
    · exact sign_turn (k := 1) (i := 0) hkind kx f1 f2 hge B X T hk hd hu hIC hID hDC hys rfl m1 fun t => sign_turn (k := 0) (i := 1) hkind kx f1 f2 hge B X T hk hd hu hIC hID hDC hys rfl m2 fun t => ⟨rfl, t, rfl⟩
  · obtain ⟨rfl, t, rfl⟩ := hf
    exact hdone t h tk mC' F' hn' N'
end Mine
end

section
open PySem PySem.W PyProof.Rows PySem.Spec PySem.Calls PyProof.V
open PyProof.Rows.LCg (NsObj Off3 Off1 lst ns_obj fr_but news_but lst_snoc)
set_option Elab.async false
set_option maxRecDepth 100000
namespace Mine
theorem kwn_LF : True := by
  k_with_none
  trivial
theorem fillLF : RW = RW ∧ KF = KF := by
  k_fill
  exact ⟨rfl, rfl⟩
set_option maxHeartbeats 0
set_option rowWalk.seconds 0
theorem start_self {prog : Program} {w : World} {A : Around} {R : Result → Shared → Prop} {s : Shared} {elt t0 i0 t1 i1 c1 : PySem.Expr} {scope : Scope} {pos : Pos} {I : Addr} {acc : Value} {env : Env} {fp wr : List Addr} {n : Nat} {P : Nat → Value → Prop} {St : Nat → Heap → Prop} (W : Walks prog w A I fp wr n P St) (st : St 0 s.heap)
    (loop : codeAny (model prog w) A (.compLoop (twoE elt t0 i0 t1 i1 c1 scope pos) 1 (.ref I) acc env) R s) : codeAny (model prog w) A (.compStart (twoE elt t0 i0 t1 i1 c1 scope pos) 1 (.ref I) acc env) R s :=
  start_in loop (W.self 0 _ _ _ st loop)
theorem tape_turn {w : World} {mean : ExcName → Option Value} {mg mb : Str → Option Value} {dp un : Nat} {gd : Option (List Code)} {cn : Str} {cs : Scope} {a : Addr} {ccd : Value} {cl : List (Str × Addr)} {outer : List Env} {A₀ : Around} {base h₀ : Heap} {L : Addr} {m : Str → Option Value}   {s : Shared} {scope : Scope} {pos : Pos} {env : Env} {cle : List (Str × Addr)} {i0 : PySem.Expr} {a1 a2 a3 px p1 e1 e2 e3 c1 c2 c3 c4 : Pos} {I C D pl P : Addr} {its : Array Value} {n0 k i : Nat} {ys : List Value} {news : List (Addr × Obj)} {x b : Str} {tx tb : Tok} {Fin : List Value → List (Addr × Obj) → Prop}
    (hkind : scope.kind = .function) (kx : scope.names.lookup (Str.ofString "sign") = some .local) (k1 : scope.names.lookup (Str.ofString "typed") = some .local) (k2 : scope.names.lookup (Str.ofString "letters") = some .local) (f1 : (compEnvC scope cle C env).kindOf (Str.ofString "in_table_b1") = some .globalImplicit) (f2 : (compEnvC scope cle C env).kindOf (Str.ofString "map_table_b3") = some .globalImplicit) (hge : env.globals = mainGlobals) (B : Below A₀ base outer h₀) (X : (KF w.params).In h₀) (T : Top topProg LN mean mg mb h₀) (hk : cs.kind = .function) (hd : dp + 4 < recursionLimit) (hu : un + 32 < cLine)
    (hID : @LT.lt Nat _ I D) (hDC : @LT.lt Nat _ D C) (hys : ys.length ≤ 100) (hi : its[i]? = some (.ref P)) (hb : (P, tup2 (.str x tx) (.str b tb)) ∈ news) (hm : PieceM w x b)
    (next : ∀ t, XRest PW w (ktrTop dp un gd cn cs L a ccd cl outer) h₀ L m s I C D (bodyO (.Call (.Name (Str.ofString "map_table_b3") e1) [.Name (Str.ofString "sign") e2] [] e3) (.Tuple [.Name (Str.ofString "typed") a1, .Name (Str.ofString "letters") a2] 0 a3) i0 (.Name (Str.ofString "sign") px) (.Name (Str.ofString "typed") p1) (.UnaryOp .Not (.Call (.Name (Str.ofString "in_table_b1") c1) [.Name (Str.ofString "sign") c2] [] c3) c4) scope pos (.ref I) (.ref D) (compEnvC scope cle C env)) (.compLoop (twoE (.Call (.Name (Str.ofString "map_table_b3") e1) [.Name (Str.ofString "sign") e2] [] e3) (.Tuple [.Name (Str.ofString "typed") a1, .Name (Str.ofString "letters") a2] 0 a3) i0 (.Name (Str.ofString "sign") px) (.Name (Str.ofString "typed") p1) (.UnaryOp .Not (.Call (.Name (Str.ofString "in_table_b1") c1) [.Name (Str.ofString "sign") c2] [] c3) c4) scope pos) 0 (.ref I) (.ref D) (compEnvC scope cle C env)) (fun nw => (pl, W.listOf its n0) ∈ nw) (fun i v => its[i]? = some v) (fun i h => h.IsListIter I pl i ∧ h.IsList pl its) Fin k (i + 1) (ys ++ [.str b t]) news) :
    XRest PW w (ktrTop dp un gd cn cs L a ccd cl outer) h₀ L m s I C D (bodyO (.Call (.Name (Str.ofString "map_table_b3") e1) [.Name (Str.ofString "sign") e2] [] e3) (.Tuple [.Name (Str.ofString "typed") a1, .Name (Str.ofString "letters") a2] 0 a3) i0 (.Name (Str.ofString "sign") px) (.Name (Str.ofString "typed") p1) (.UnaryOp .Not (.Call (.Name (Str.ofString "in_table_b1") c1) [.Name (Str.ofString "sign") c2] [] c3) c4) scope pos (.ref I) (.ref D) (compEnvC scope cle C env)) (.compLoop (twoE (.Call (.Name (Str.ofString "map_table_b3") e1) [.Name (Str.ofString "sign") e2] [] e3) (.Tuple [.Name (Str.ofString "typed") a1, .Name (Str.ofString "letters") a2] 0 a3) i0 (.Name (Str.ofString "sign") px) (.Name (Str.ofString "typed") p1) (.UnaryOp .Not (.Call (.Name (Str.ofString "in_table_b1") c1) [.Name (Str.ofString "sign") c2] [] c3) c4) scope pos) 0 (.ref I) (.ref D) (compEnvC scope cle C env)) (fun nw => (pl, W.listOf its n0) ∈ nw) (fun i v => its[i]? = some v) (fun i h => h.IsListIter I pl i ∧ h.IsList pl its) Fin (k + 1) i ys news := by
  intro v oI oC m₂ h tk E' hP ho F N off hS hst
  have hv : v = .ref P := Option.some.inj (hP.symm.trans hi)
  subst hv
  have hIC : I ≠ C := Nat.ne_of_lt (Nat.lt_trans hID hDC)
  have hn : (compEnvC scope cle C env).scope.kind = .function := by simp [compEnvC, relabel, hkind]
  have x0 : XAt h₀ L m I oI C D ys news m₂ h := ⟨oC, F, ho, N⟩
  have htup : IsTup h P #[.str x tx, .str b tb] := ⟨_, (N _ (.tail _ (.tail _ (.tail _ hb)))).1, rfl, _, rfl⟩
  have NC := (N (C, oC) (.tail _ (.head _))).2
  unfold bodyO
  refine wpAny_bind (wpAny_letOwnedTupleGo_listiter hst.1 ?_)
  refine wpAny_bind (put2 (env := (compEnvC scope cle C env)) rfl (lookup_relabel_local k1) (lookup_relabel_local k2) hn x0.ns htup fun h2 tk2 n2 kp2 => ?_)
  obtain ⟨oC2, F2, ho2, N2⟩ := x0.store n2 kp2 hIC (Nat.ne_of_lt hDC) off
  have em : upd (Str.ofString "letters") (.str b tb) (upd (Str.ofString "typed") (.str x tx) m₂) (Str.ofString "typed") = some (.str x tx) := by
    unfold upd
    rw [if_neg (by decide +kernel), if_pos rfl]
  refine wpAny_bind (LCgL.ld_own N2 (.tail _ (.head _)) ho2 em ?_ hn (lookup_relabel_local k1))
  refine wpAny_bind (wpAny_standAt ?_)
  refine wpAny_bind (wpAny_of_eq (show foldedSetIterable (.Name (Str.ofString "typed") p1) (compEnvC scope cle C env) (.str x tx) = pure (.str x tx) from rfl) ?_)
  refine wpAny_bind (wpAny_holding (iter2 fun ty W => ?_))
  refine wpAny_bind (wpAny_runOwn ?_)
  rw [Around.mark_none]
  have old : ∀ q o, h2.get? q = some o → (h2.push { cls := .type ty, data := .fields #[.str x tx, .int 0 0] }).get? q = some o := fun q o e => Heap.get?_push_of_some _ e
  have lt0 : ∀ p ∈ (I, oI) :: (C, oC2) :: (D, lst ys) :: news, p.1 ≠ h2.objs.size := fun p hp => Nat.ne_of_lt (Heap.lt_size (N2 p hp).1)
  have Llt := F2.ns.lt
  have st : (h2.push { cls := .type ty, data := .fields #[.str x tx, .int 0 0] }).IsStrIter h2.objs.size ty x tx 0 := ⟨_, Heap.get?_push_size _ rfl, rfl, rfl⟩
  refine start_self (W _ rfl _) st ?_
  · refine inner_loop (s := { s with heap := h2.push { cls := .type ty, data := .fields #[.str x tx, .int 0 0] }, toks := tk2 }) (news := (I, oI) :: news) hkind kx f1 f2 hge B X T hk hd hu (Ne.symm (lt0 (C, oC2) (.tail _ (.head _)))) (Ne.symm (lt0 (D, lst ys) (.tail _ (.tail _ (.head _))))) (Nat.ne_of_lt hDC) hys hm (W _ rfl _) (Nat.ne_of_lt Llt) (next_new F2 (Nat.le_refl _)) NC.1 NC.2 st (F2.keeps old) (n2.at' fun o e => old _ o e) (fun p hp => ?_) (Off3.of fun p hp => ?_) (fun t h5 tk5 mC5 F5 hn5 N5 => ?_)
    · rcases List.mem_cons.mp hp with rfl | hp
      · have z := N2 (D, lst ys) (.tail _ (.tail _ (.head _))); exact ⟨old _ _ z.1, z.2⟩
      rcases List.mem_cons.mp hp with rfl | hp
      · have z := N2 (I, oI) (.head _); exact ⟨old _ _ z.1, z.2⟩
      · have z := N2 p (.tail _ (.tail _ (.tail _ hp))); exact ⟨old _ _ z.1, z.2⟩
    · rcases List.mem_cons.mp hp with rfl | hp
      · exact ⟨lt0 (I, oI) (.head _), hIC, Nat.ne_of_lt hID⟩
      · exact ⟨lt0 p (.tail _ (.tail _ (.tail _ hp))), (off.mem p hp).2⟩
    · obtain ⟨oC5, heC, hoC⟩ := ns_obj hn5
      refine wpAny_pure ⟨rfl, h5, tk5, oC5, mC5, _, news, rfl, F5, hoC, fun p hp => ?_, off, hS, next t⟩
      rcases List.mem_cons.mp hp with rfl | hp
      · exact N5 _ (.tail _ (.head _))
      rcases List.mem_cons.mp hp with rfl | hp
      · exact ⟨heC, NC⟩
      rcases List.mem_cons.mp hp with rfl | hp
      · exact N5 _ (.head _)
      · exact N5 _ (.tail _ (.tail _ hp))
end Mine
end

section
open PySem PySem.W PyProof.Rows PySem.Spec PySem.Calls PyProof.V
open PyProof.Rows.LCg (NsObj Off3 Off1 lst ns_obj fr_but news_but lst_snoc)
set_option Elab.async false
set_option maxRecDepth 100000
namespace Mine
theorem kwn_LG : True := by
  k_with_none
  trivial
theorem fillLG : RW = RW ∧ KF = KF := by
  k_fill
  exact ⟨rfl, rfl⟩
set_option maxHeartbeats 0
set_option rowWalk.seconds 0
section
variable {prog : Program} {w : World} {A : Around} {E : Value → Shared → Prop} {s : Shared} {h₀ : Heap} {L : Addr} {m : Str → Option Value}
/-- a list comprehension whose first clause goes over a list that its source makes -/
theorem comp_listA {elt tgt iter : PySem.Expr} {ifs : List PySem.Expr} {gs : List Comprehension} {scope : Scope} {pos : Pos} {env : Env} {cl : List (Str × Addr)} {its : Array Value} {n0 : Nat} {Q : Value → Shared → Prop} {S : Addr → List (Addr × Obj) → Prop} {news : List (Addr × Obj)}
    {body : Addr → Addr → Addr → Value → Sem Fin} {p : Pos} {Fin : Addr → Addr → List Value → List (Addr × Obj) → Prop}
    (heq : ∀ I C D, compTurn (.ListComp elt (⟨tgt, iter, ifs, 0⟩ :: gs) scope pos) 0 (.ref I) (.ref D) (compEnvC scope cl C env) = (standAt p >>= fun _ => pyNext (.ref I) >>= fun r => match r with
      | none => pure (.done .next)
      | some v => body I C D v))
    (hh : A.handled = none) (hclos : closureFor scope env = pure cl) (hcell : ∀ y ∈ scope.names, y.2 ≠ .cell) (hkind : scope.kind = .function)
    (hnames : ∀ y ∈ scope.names, y.2 = .local → scope.names.lookup y.1 = some .local)
    (hS : ∀ ax, S ax ((ax, W.listOf its n0) :: news)) (hSa : ∀ ax nw, S ax nw → (ax, W.listOf its n0) ∈ nw)
    (hR : ∀ ax I C D s', (∀ p ∈ news, @LT.lt Nat _ p.1 ax) → (∀ p ∈ (ax, W.listOf its n0) :: news, @LT.lt Nat _ p.1 I) → @LT.lt Nat _ I D → @LT.lt Nat _ D C → s'.gens = s.gens → s'.drawn = s.drawn → s'.os = s.os →
      XRest prog w A h₀ L m s' I C D (body I C D) (.compLoop (.ListComp elt (⟨tgt, iter, ifs, 0⟩ :: gs) scope pos) 0 (.ref I) (.ref D) (compEnvC scope cl C env)) (S ax) (fun i v => its[i]? = some v) (fun i h => h.IsListIter I ax i ∧ h.IsList ax its) (Fin ax D) its.size 0 [] ((ax, W.listOf its n0) :: news))
    (hfin : ∀ ax D h tk ys news', Fr h₀ L h m → News h₀ L h ((D, lst ys) :: news') → (∀ p ∈ news', p.1 ≠ D) → S ax news' → Fin ax D ys news' → Q (.ref D) { s with heap := h, toks := tk })
    (hs : ∀ x, foldedSetIterable iter env x = pure x := by intro _; rfl)
    (hev : wpAny (model prog w) A (eval iter env) (fun v s' => ∃ ax h1 tk1, v = .ref ax ∧ s' = { s with heap := h1, toks := tk1 } ∧ Fr h₀ L h1 m ∧ News h₀ L h1 ((ax, W.listOf its n0) :: news) ∧ (∀ p ∈ news, @LT.lt Nat _ p.1 ax)) E s) :
    wpAny (model prog w) A (eval (.ListComp elt (⟨tgt, iter, ifs, 0⟩ :: gs) scope pos) env) Q E s := by
  rw [eval_ListComp]
  refine wpAny_comprehension_free (use := none) rfl hs hclos hkind hnames (wpAny_mono hev (fun xv s₀ h₁ => ?_) fun _ _ e => e)
  obtain ⟨ax, hq, tkq, rfl, es, F, N, hlax⟩ := h₁
  obtain ⟨s₁, hs₁, F, N⟩ : ∃ s₁ : Shared, s₁ = { s with heap := hq, toks := tkq } ∧ Fr h₀ L s₁.heap m ∧ News h₀ L s₁.heap ((ax, W.listOf its n0) :: news) := ⟨_, rfl, F, N⟩
  rw [es, ← hs₁]
  have hax : (ax, W.listOf its n0) ∈ (ax, W.listOf its n0) :: news := .head _
  have hfin' : ∀ D h tk ys news', Fr h₀ L h m → News h₀ L h ((D, lst ys) :: news') → (∀ p ∈ news', p.1 ≠ D) → S ax news' → Fin ax D ys news' → Q (.ref D) { s₁ with heap := h, toks := tk } := by
    intro D h tk ys news' a b c d e
    rw [hs₁]
    exact hfin ax D h tk ys news' a b c d e
  clear hfin
  have hl : s₁.heap.IsList ax its := ⟨_, (N _ hax).1, rfl, _, rfl⟩
  have hlt : ax < s₁.heap.objs.size := Heap.lt_size (N _ hax).1
  refine wpAny_pyIter_list hl ?_
  refine wpAny_newObj_type (wpAny_newFunctionEnv hcell (by intro y hy; simp at hy) (fun h₁ hns₁ hsb₁ => ?_) hkind)
  dsimp only at hns₁ hsb₁ ⊢
  generalize hH1 : s₁.heap.push { cls := .type "list_iterator", data := .fields #[.ref ax, .int 0 0] } = H1 at hns₁ hsb₁ ⊢
  generalize hH2 : H1.push { cls := .type "list", dict := none, data := .seq ([] : List Value).toArray } = H2 at hns₁ hsb₁ ⊢
  have z1 : H1.objs.size = s₁.heap.objs.size + 1 := by rw [← hH1, Heap.size_push]
  have z2 : H2.objs.size = s₁.heap.objs.size + 2 := by rw [← hH2, Heap.size_push, z1]
  have old1 : ∀ b o, s₁.heap.get? b = some o → H1.get? b = some o := fun b o e => by rw [← hH1]; exact Heap.get?_push_of_some _ e
  have old2 : ∀ b o, H1.get? b = some o → H2.get? b = some o := fun b o e => by rw [← hH2]; exact Heap.get?_push_of_some _ e
  have hb2 : ∀ b o, H2.get? b = some o → b ≠ H2.objs.size := fun b o e => Nat.ne_of_lt (Heap.lt_size e)
  have old : ∀ b o, s₁.heap.get? b = some o → h₁.get? b = some o := fun b o e => hsb₁.extBut b o (hb2 _ _ (old2 _ _ (old1 _ _ e))) (Heap.get?_push_of_some _ (old2 _ _ (old1 _ _ e)))
  have hI : H1.get? s₁.heap.objs.size = some { cls := .type "list_iterator", data := .fields #[.ref ax, .int 0 0] } := by rw [← hH1]; exact Heap.get?_push_size _ rfl
  have hI1 : h₁.get? s₁.heap.objs.size = some { cls := .type "list_iterator", data := .fields #[.ref ax, .int 0 0] } := hsb₁.extBut _ _ (hb2 _ _ (old2 _ _ hI)) (Heap.get?_push_of_some _ (old2 _ _ hI))
  have hD : H2.get? H1.objs.size = some (lst []) := by rw [← hH2]; exact Heap.get?_push_size _ rfl
  have hD1 : h₁.get? H1.objs.size = some (lst []) := hsb₁.extBut _ _ (hb2 _ _ hD) (Heap.get?_push_of_some _ hD)
  have F1 : Fr h₀ L h₁ m := F.keeps old
  have Llt := F.ns.lt
  have lt0 : ∀ p ∈ (ax, W.listOf its n0) :: news, @LT.lt Nat _ p.1 s₁.heap.objs.size := fun p hp => Heap.lt_size (N p hp).1
  have cI : s₁.heap.objs.size ≠ H2.objs.size := by rw [z2]; exact Nat.ne_of_lt (by omega)
  have dI : s₁.heap.objs.size ≠ H1.objs.size := by rw [z1]; exact Nat.ne_of_lt (by omega)
  have loop : codeAny (model prog w) A (.compLoop (.ListComp elt (⟨tgt, iter, ifs, 0⟩ :: gs) scope pos) 0 (.ref s₁.heap.objs.size) (.ref H1.objs.size) (compEnvC scope cl H2.objs.size env)) (compPost (model prog w) A E none Q (.ref H1.objs.size) H2.objs.size)
      { s₁ with heap := h₁, toks := s₁.toks + ([] : List (Str × Value)).length } := by
    refine compX (s := { s₁ with heap := h₁, toks := s₁.toks + ([] : List (Str × Value)).length }) (heq _ _ _) (Walks.list hh s₁.heap.objs.size ax (Nat.ne_of_lt hlt) its) (fun i h st => by obtain ⟨o, e, _⟩ := st.1; exact ⟨o, e⟩)
      (fun i h h' o nw st e1 e2 _ NN SS => ?_) (Nat.ne_of_lt Llt) (next_new F (Nat.le_refl _)) (fun q => ?_) (next_new F (by rw [z2]; omega)) cI dI
      ⟨⟨_, hI1, rfl, rfl⟩, ⟨_, old _ _ (N _ hax).1, rfl, _, rfl⟩⟩ F1 hns₁ (fun p hp => ?_) (Off3.of fun p hp => ⟨Nat.ne_of_lt (lt0 p hp), Nat.ne_of_lt (Nat.lt_trans (lt0 p hp) (by rw [z2]; omega)), Nat.ne_of_lt (Nat.lt_trans (lt0 p hp) (by rw [z1]; omega))⟩) (hS ax) (hR ax _ _ _ _ hlax lt0 (by rw [z1]; omega) (by rw [z1, z2]; omega) (by rw [hs₁]) (by rw [hs₁]) (by rw [hs₁])) (fun h tk mC ys nw F' hn N' off' S' fin => ?_)
    · refine ⟨?_, ⟨_, (NN _ (hSa ax _ SS)).1, rfl, _, rfl⟩⟩
      obtain ⟨o', e, r⟩ := st.1
      rw [e1] at e; cases e
      exact ⟨_, e2, r⟩
    · rw [z2] at q; exact absurd Llt (by rw [← q]; exact Nat.not_lt.mpr (by omega))
    · rcases List.mem_cons.mp hp with rfl | hp
      · exact ⟨hD1, fun q => absurd Llt (by rw [← q, z1]; exact Nat.not_lt.mpr (by omega)), next_new F (by rw [z1]; omega)⟩
      · exact ⟨old _ _ (N p hp).1, (N p hp).2⟩
    · have o3 := off'.mem
      have hC₀ : h₀.get? H2.objs.size = none := next_new F (by rw [z2]; omega)
      have hCL : H2.objs.size ≠ L := fun q => absurd Llt (by rw [← q, z2]; exact Nat.not_lt.mpr (by omega))
      refine ⟨mC, hn, fun h'' hs'' => hfin' _ h'' tk ys nw (F'.change hs'' hCL hC₀) (fun p hp => ?_) (fun p hp => (o3 p hp).2.2) S' fin⟩
      refine ⟨hs''.extBut _ _ ?_ (N' p hp).1, (N' p hp).2⟩
      rcases List.mem_cons.mp hp with rfl | hp
      · rw [z1, z2]; exact Nat.ne_of_lt (by omega)
      · exact (o3 p hp).2.1
  refine codeAny_compStart_list loop ?_
  refine (Walks.list hh s₁.heap.objs.size ax (Nat.ne_of_lt hlt) its).self 0 _ _ _ ⟨⟨_, hI1, rfl, rfl⟩, ⟨_, old _ _ (N _ hax).1, rfl, _, rfl⟩⟩ loop
end
noncomputable def bodyP (elt tgt iter : PySem.Expr) (scope : Scope) (pos : Pos) (cl : List (Str × Addr)) (env : Env) (I C D : Addr) (v : Value) : Sem Fin :=
  letOwnedTupleGo tgt (.ref I) v >>= fun _ => assign tgt (compEnvC scope cl C env) v >>= fun _ =>
    (eval elt (compEnvC scope cl C env) >>= fun x => call (.builtin "list.append") [.ref D, x] >>= fun _ => pure ()) >>= fun _ =>
      again (.compLoop (.ListComp elt [⟨tgt, iter, [], 0⟩] scope pos) 0 (.ref I) (.ref D) (compEnvC scope cl C env))
theorem bodyP_eq (elt tgt iter : PySem.Expr) (scope : Scope) (pos : Pos) (cl : List (Str × Addr)) (env : Env) (I C D : Addr) :
    compTurn (.ListComp elt [⟨tgt, iter, [], 0⟩] scope pos) 0 (.ref I) (.ref D) (compEnvC scope cl C env) = (standAt iter.pos >>= fun _ => pyNext (.ref I) >>= fun r => match r with
      | none => pure (.done .next)
      | some v => bodyP elt tgt iter scope pos cl env I C D v) := compTurn_list1 _ _ _ _ _ _ _ _
theorem piece_turn {w : World} {mean : ExcName → Option Value} {mg mb : Str → Option Value} {dp un : Nat} {gd : Option (List Code)} {cn : Str} {cs : Scope} {a : Addr} {ccd : Value} {cl : List (Str × Addr)} {outer : List Env} {A₀ : Around} {base h₀ : Heap} {L : Addr} {m : Str → Option Value}   {s : Shared} {scope : Scope} {pos : Pos} {env : Env} {cle : List (Str × Addr)} {iter : PySem.Expr} {px e1 e2 e3 : Pos} {I C D pl : Addr} {its : Array Value} {n0 k i : Nat} {ys : List Value} {news : List (Addr × Obj)} {x : Int} {tx : Tok} {Fin : List Value → List (Addr × Obj) → Prop}
    (hkind : scope.kind = .function) (kx : scope.names.lookup (Str.ofString "x") = some .local) (f1 : ∀ C, (compEnvC scope cle C env).kindOf (Str.ofString "_law_piece") = some .globalImplicit) (hge : env.globals = mainGlobals) (B : Below A₀ base outer h₀) (X : (KF w.params).In h₀) (T : Top topProg LN mean mg mb h₀) (hk : cs.kind = .function) (hd : dp + 4 < recursionLimit) (hu : un + 32 < cLine)
    (hID : @LT.lt Nat _ I D) (hDC : @LT.lt Nat _ D C) (hys : ys.length ≤ 100) (hi : its[i]? = some (.int x tx)) (hx0 : 0 ≤ x) (hx1 : x < 1000000000)
    (next : ∀ P xa xb ta tb, PieceK xa xb → XRest PW w (ktrTop dp un gd cn cs L a ccd cl outer) h₀ L m s I C D (bodyP (.Call (.Name (Str.ofString "_law_piece") e1) [.Name (Str.ofString "x") e2] [] e3) (.Name (Str.ofString "x") px) iter scope pos cle env I C D) (.compLoop (.ListComp (.Call (.Name (Str.ofString "_law_piece") e1) [.Name (Str.ofString "x") e2] [] e3) [⟨.Name (Str.ofString "x") px, iter, [], 0⟩] scope pos) 0 (.ref I) (.ref D) (compEnvC scope cle C env)) (fun nw => (pl, W.listOf its n0) ∈ nw) (fun i v => its[i]? = some v) (fun i h => h.IsListIter I pl i ∧ h.IsList pl its) Fin k (i + 1) (ys ++ [.ref P]) ((P, tup2 (.str xa ta) (.str xb tb)) :: news)) :
    XRest PW w (ktrTop dp un gd cn cs L a ccd cl outer) h₀ L m s I C D (bodyP (.Call (.Name (Str.ofString "_law_piece") e1) [.Name (Str.ofString "x") e2] [] e3) (.Name (Str.ofString "x") px) iter scope pos cle env I C D) (.compLoop (.ListComp (.Call (.Name (Str.ofString "_law_piece") e1) [.Name (Str.ofString "x") e2] [] e3) [⟨.Name (Str.ofString "x") px, iter, [], 0⟩] scope pos) 0 (.ref I) (.ref D) (compEnvC scope cle C env)) (fun nw => (pl, W.listOf its n0) ∈ nw) (fun i v => its[i]? = some v) (fun i h => h.IsListIter I pl i ∧ h.IsList pl its) Fin (k + 1) i ys news := by
  intro v oI oC m₂ h tk E' hP ho F N off hS hst
  have hv : v = .int x tx := Option.some.inj (hP.symm.trans hi)
  subst hv
  have hIC : I ≠ C := Nat.ne_of_lt (Nat.lt_trans hID hDC)
  have hn : (compEnvC scope cle C env).scope.kind = .function := by simp [compEnvC, relabel, hkind]
  have hg : nsIn (KF w.params) mainGlobals (Str.ofString "_law_piece") = some (some (.ref 285)) := by k_is
  have x0 : XAt h₀ L m I oI C D ys news m₂ h := ⟨oC, F, ho, N⟩
  unfold bodyP
  refine wpAny_bind (wpAny_of_eq (show letOwnedTupleGo (.Name (Str.ofString "x") px) (.ref I) (.int x tx) = pure () from rfl) ?_)
  refine wpAny_bind (put_name (env := compEnvC scope cle C env) (lookup_relabel_local kx) hn x0.ns fun h2 tk2 n2 kp2 => ?_)
  obtain ⟨oC2, F2, ho2, N2⟩ := x0.store n2 kp2 hIC (Nat.ne_of_lt hDC) off
  have em : upd (Str.ofString "x") (.int x tx) m₂ (Str.ofString "x") = some (.int x tx) := by simp [upd]
  refine wpAny_bind (wpAny_bind (Call_ (LCgL.ld_global F2 X T hg ?_ hge hn (f1 C))))
  refine callWith_K X (by k_is) ?_
  refine spliced_more (LCgL.ld_own N2 (.tail _ (.head _)) ho2 em ?_ hn (lookup_relabel_local kx))
  refine spliced_none ⟨X.keeps F2.keep, ?_⟩
  refine piece_ok hx0 hx1 B F2 X N2 T hk (by omega) (by omega) fun P xa xb ta tb h3 tk3 hpk F3 N3 l3 => ?_
  have off3 : Off3 I C D ((P, tup2 (.str xa ta) (.str xb tb)) :: news) :=
    ⟨⟨Ne.symm (l3 _ (.head _)), Ne.symm (l3 _ (.tail _ (.head _))), Ne.symm (l3 _ (.tail _ (.tail _ (.head _))))⟩, off⟩
  have x3 : XAt h₀ L m I oI C D ys ((P, tup2 (.str xa ta) (.str xb tb)) :: news) _ h3 := ⟨oC2, F3, ho2, cb_drop N3 (by
    intro p hp
    simp only [List.mem_cons] at hp ⊢
    rcases hp with h | h | h | h | h <;> simp [h])⟩
  refine wpAny_bind (push_item (by have z : (100 : Nat) ≤ sizeLine := by decide
                                   exact Nat.le_trans hys z) x3 off3 (Nat.ne_of_lt hID) (Ne.symm (Nat.ne_of_lt hDC)) fun v4 h4 x4 => ?_)
  obtain ⟨oC4, F4, ho4, N4⟩ := x4
  exact wpAny_pure (wpAny_pure ⟨rfl, _, _, oC4, _, _, _, rfl, F4, ho4, N4, off3, .tail _ hS, next P xa xb ta tb hpk⟩)
end Mine
end

section
open PySem PySem.W PyProof.Rows PySem.Spec PySem.Calls PyProof.V
open PyProof.Rows.LCg (NsObj Off3 Off1 lst ns_obj fr_but news_but lst_snoc)
set_option Elab.async false
set_option maxRecDepth 100000
namespace Mine
theorem kwn_LH : True := by
  k_with_none
  trivial
theorem fillLH : RW = RW ∧ KF = KF := by
  k_fill
  exact ⟨rfl, rfl⟩
set_option maxHeartbeats 0
set_option rowWalk.seconds 0
theorem pieces_comp {w : World} {mean : ExcName → Option Value} {mg mb : Str → Option Value} {dp un : Nat} {gd : Option (List Code)} {cn : Str} {cs : Scope} {a : Addr} {ccd : Value} {cl : List (Str × Addr)} {outer : List Env} {A₀ : Around} {base h₀ : Heap} {L : Addr} {m : Str → Option Value} {s : Shared} {Q E : Value → Shared → Prop}   {scope : Scope} {pos : Pos} {env : Env} {cle : List (Str × Addr)} {px e1 e2 e3 g1 g2 g3 g4 : Pos} {G : Addr} {x0 x1 x2 x3 : Int} {tx0 tx1 tx2 tx3 : Tok} {n : Nat} {news : List (Addr × Obj)}
    (hkind : scope.kind = .function) (kx : scope.names.lookup (Str.ofString "x") = some .local) (f1 : ∀ C, (compEnvC scope cle C env).kindOf (Str.ofString "_law_piece") = some .globalImplicit) (hge : env.globals = mainGlobals) (hclos : closureFor scope env = pure cle) (hcell : ∀ y ∈ scope.names, y.2 ≠ .cell) (hnames : ∀ y ∈ scope.names, y.2 = .local → scope.names.lookup y.1 = some .local) (B : Below A₀ base outer h₀) (X : (KF w.params).In h₀) (T : Top topProg LN mean mg mb h₀) (hk : cs.kind = .function) (hd : dp + 4 < recursionLimit) (hu : un + 32 < cLine) (F : Fr h₀ L s.heap m) (N : News h₀ L s.heap news) (hG : (G, W.listOf #[.int x0 tx0, .int x1 tx1, .int x2 tx2, .int x3 tx3] n) ∈ news) (b1 : 0 ≤ x1 ∧ x1 < 1000000000) (b2 : 0 ≤ x2 ∧ x2 < 1000000000) (b3 : 0 ≤ x3 ∧ x3 < 1000000000)
    (hev : wpAny (model PW w) (ktrTop dp un gd cn cs L a ccd cl outer) (eval (.Name (Str.ofString "given") g1) env) (fun v s' => v = .ref G ∧ s' = s) E s)
    (hret : ∀ pl (P0 P1 P2 : Addr) (y0 y1 y2 z0 z1 z2 : Str) (ty0 ty1 ty2 tz0 tz1 tz2 : Tok) h tk, PieceK y0 z0 → PieceK y1 z1 → PieceK y2 z2 → Fr h₀ L h m → News h₀ L h ((pl, W.listOf #[.ref P0, .ref P1, .ref P2] 3) :: (P2, tup2 (.str y2 ty2) (.str z2 tz2)) :: (P1, tup2 (.str y1 ty1) (.str z1 tz1)) :: (P0, tup2 (.str y0 ty0) (.str z0 tz0)) :: news) → Q (.ref pl) { s with heap := h, toks := tk }) :
    wpAny (model PW w) (ktrTop dp un gd cn cs L a ccd cl outer) (eval (.ListComp (.Call (.Name (Str.ofString "_law_piece") e1) [.Name (Str.ofString "x") e2] [] e3) [⟨.Name (Str.ofString "x") px, (.Subscript (.Name (Str.ofString "given") g1) (.Slice (some (.Constant (.int 1) 0 g2)) none none g3) g4), [], 0⟩] scope pos) env) Q E s := by
  refine comp_listA (its := #[.int x1 tx1, .int x2 tx2, .int x3 tx3]) (n0 := 0) (h₀ := h₀) (L := L) (m := m) (news := news) (S := fun ax nw => (ax, W.listOf #[.int x1 tx1, .int x2 tx2, .int x3 tx3] 0) ∈ nw) (body := bodyP (.Call (.Name (Str.ofString "_law_piece") e1) [.Name (Str.ofString "x") e2] [] e3) (.Name (Str.ofString "x") px) (.Subscript (.Name (Str.ofString "given") g1) (.Slice (some (.Constant (.int 1) 0 g2)) none none g3) g4) scope pos cle env)
    (Fin := fun ax D ys nw => ∃ (P0 P1 P2 : Addr) (y0 y1 y2 z0 z1 z2 : Str) (ty0 ty1 ty2 tz0 tz1 tz2 : Tok), ys = [.ref P0, .ref P1, .ref P2] ∧ nw = (P2, tup2 (.str y2 ty2) (.str z2 tz2)) :: (P1, tup2 (.str y1 ty1) (.str z1 tz1)) :: (P0, tup2 (.str y0 ty0) (.str z0 tz0)) :: (ax, W.listOf #[.int x1 tx1, .int x2 tx2, .int x3 tx3] 0) :: news ∧ PieceK y0 z0 ∧ PieceK y1 z1 ∧ PieceK y2 z2)
    (bodyP_eq _ _ _ scope pos cle env) rfl hclos hcell hkind hnames (fun _ => .head _) (fun _ _ h => h) (fun ax I C D s' hax hI2 hID hDC e1 e2 e3 => ?_) (fun ax D h tk ys nw F' N' off' _ hf => ?_) (by intro _; rfl) ?_
  · exact piece_turn (k := 2) (i := 0) hkind kx f1 hge B X T hk hd hu hID hDC (by show (0 : Nat) ≤ 100; decide) rfl b1.1 b1.2 fun P0 y0 z0 ty0 tz0 q0 => piece_turn (k := 1) (i := 1) hkind kx f1 hge B X T hk hd hu hID hDC (by show (1 : Nat) ≤ 100; decide) rfl b2.1 b2.2 fun P1 y1 z1 ty1 tz1 q1 => piece_turn (k := 0) (i := 2) hkind kx f1 hge B X T hk hd hu hID hDC (by show (2 : Nat) ≤ 100; decide) rfl b3.1 b3.2 fun P2 y2 z2 ty2 tz2 q2 =>
      ⟨P0, P1, P2, y0, y1, y2, z0, z1, z2, ty0, ty1, ty2, tz0, tz1, tz2, rfl, rfl, q0, q1, q2⟩
  · obtain ⟨P0, P1, P2, y0, y1, y2, z0, z1, z2, ty0, ty1, ty2, tz0, tz1, tz2, rfl, rfl, q0, q1, q2⟩ := hf
    refine hret D P0 P1 P2 y0 y1 y2 z0 z1 z2 ty0 ty1 ty2 tz0 tz1 tz2 h tk q0 q1 q2 F' (cb_drop N' fun p hp => ?_)
    simp only [List.mem_cons] at hp ⊢
    rcases hp with h | h | h | h | h <;> simp [h]
  · refine Subscript_ (wpAny_mono hev (fun v s' h => ?_) fun _ _ e => e)
    obtain ⟨rfl, rfl⟩ := h
    refine wpAny_Slice (evalPart_some_step (wpAny_Constant_int (evalPart_none_step (evalPart_none_step ?_))))
    refine kmk_slice_lit (s := { s' with toks := s'.toks + 1 }) (zs := [.int x1 tx1, .int x2 tx2, .int x3 tx3]) F N ⟨_, (N _ hG).1, rfl, _, rfl⟩ (IsPart.int _ _) IsPart.none (by with_unfolding_all rfl) (fun D h' F' N' l1 => ⟨D, h', _, rfl, rfl, F', N', l1⟩) (by with_unfolding_all rfl) (by intro _; rfl) (Nat.le_of_ble_eq_true rfl)
end Mine
end

section
open PySem PySem.W PyProof.Rows PySem.Spec PySem.Calls PyProof.V
open PyProof.Rows.LCg (NsObj Off3 Off1 lst ns_obj fr_but news_but lst_snoc)
set_option Elab.async false
set_option maxRecDepth 100000
namespace Mine
theorem kwn_LI : True := by
  k_with_none
  trivial
theorem fillLI : RW = RW ∧ KF = KF := by
  k_fill
  exact ⟨rfl, rfl⟩
set_option maxHeartbeats 0
set_option rowWalk.seconds 0
theorem meant_turn {w : World} {A : Around} {h₀ : Heap} {L : Addr} {m : Str → Option Value} {s : Shared} {scope : Scope} {pos : Pos} {env : Env} {cle : List (Str × Addr)} {a1 a2 a3 e1 pp : Pos} {I C D pl P : Addr} {its : Array Value} {n0 k i : Nat} {ys : List Value} {news : List (Addr × Obj)} {x b : Str} {tx tb : Tok} {Fin : List Value → List (Addr × Obj) → Prop}
    (hh : A.handled = none) (hkind : scope.kind = .function) (k1 : scope.names.lookup (Str.ofString "typed") = some .local) (k2 : scope.names.lookup (Str.ofString "letters") = some .local)
    (hID : @LT.lt Nat _ I D) (hDC : @LT.lt Nat _ D C) (hys : ys.length ≤ 100) (hi : its[i]? = some (.ref P)) (hb : (P, tup2 (.str x tx) (.str b tb)) ∈ news)
    (next : XRest PW w A h₀ L m s I C D (bodyP (.Name (Str.ofString "letters") e1) (.Tuple [.Name (Str.ofString "typed") a1, .Name (Str.ofString "letters") a2] 0 a3) (.Name (Str.ofString "pieces") pp) scope pos cle env I C D) (.compLoop (.ListComp (.Name (Str.ofString "letters") e1) [⟨(.Tuple [.Name (Str.ofString "typed") a1, .Name (Str.ofString "letters") a2] 0 a3), (.Name (Str.ofString "pieces") pp), [], 0⟩] scope pos) 0 (.ref I) (.ref D) (compEnvC scope cle C env)) (fun nw => (pl, W.listOf its n0) ∈ nw) (fun i v => its[i]? = some v) (fun i h => h.IsListIter I pl i ∧ h.IsList pl its) Fin k (i + 1) (ys ++ [.str b tb]) news) :
    XRest PW w A h₀ L m s I C D (bodyP (.Name (Str.ofString "letters") e1) (.Tuple [.Name (Str.ofString "typed") a1, .Name (Str.ofString "letters") a2] 0 a3) (.Name (Str.ofString "pieces") pp) scope pos cle env I C D) (.compLoop (.ListComp (.Name (Str.ofString "letters") e1) [⟨(.Tuple [.Name (Str.ofString "typed") a1, .Name (Str.ofString "letters") a2] 0 a3), (.Name (Str.ofString "pieces") pp), [], 0⟩] scope pos) 0 (.ref I) (.ref D) (compEnvC scope cle C env)) (fun nw => (pl, W.listOf its n0) ∈ nw) (fun i v => its[i]? = some v) (fun i h => h.IsListIter I pl i ∧ h.IsList pl its) Fin (k + 1) i ys news := by
  intro v oI oC m₂ h tk E' hP ho F N off hS hst
  have hv : v = .ref P := Option.some.inj (hP.symm.trans hi)
  subst hv
  have hIC : I ≠ C := Nat.ne_of_lt (Nat.lt_trans hID hDC)
  have hn : (compEnvC scope cle C env).scope.kind = .function := by simp [compEnvC, relabel, hkind]
  have x0 : XAt h₀ L m I oI C D ys news m₂ h := ⟨oC, F, ho, N⟩
  have htup : IsTup h P #[.str x tx, .str b tb] := ⟨_, (N _ (.tail _ (.tail _ (.tail _ hb)))).1, rfl, _, rfl⟩
  unfold bodyP
  refine wpAny_bind (wpAny_letOwnedTupleGo_listiter hst.1 ?_)
  refine wpAny_bind (put2 (env := compEnvC scope cle C env) hh (lookup_relabel_local k1) (lookup_relabel_local k2) hn x0.ns htup fun h2 tk2 n2 kp2 => ?_)
  obtain ⟨oC2, F2, ho2, N2⟩ := x0.store n2 kp2 hIC (Nat.ne_of_lt hDC) off
  have em : upd (Str.ofString "letters") (.str b tb) (upd (Str.ofString "typed") (.str x tx) m₂) (Str.ofString "letters") = some (.str b tb) := by simp [upd]
  refine wpAny_bind (wpAny_bind (LCgL.ld_own N2 (.tail _ (.head _)) ho2 em ?_ hn (lookup_relabel_local k2)))
  have x3 : XAt h₀ L m I oI C D ys news _ h2 := ⟨oC2, F2, ho2, N2⟩
  refine wpAny_bind (push_item (by have z : (100 : Nat) ≤ sizeLine := by decide
                                   exact Nat.le_trans hys z) x3 off (Nat.ne_of_lt hID) (Ne.symm (Nat.ne_of_lt hDC)) fun v4 h4 x4 => ?_)
  obtain ⟨oC4, F4, ho4, N4⟩ := x4
  exact wpAny_pure (wpAny_pure ⟨rfl, _, _, oC4, _, _, _, rfl, F4, ho4, N4, off, hS, next⟩)
theorem meant_comp {w : World} {A : Around} {h₀ : Heap} {L : Addr} {m : Str → Option Value} {s : Shared} {Q E : Value → Shared → Prop} {scope : Scope} {pos : Pos} {env : Env} {cle : List (Str × Addr)} {a1 a2 a3 e1 pp : Pos} {pl : Addr} {pn : Nat} {P0 P1 P2 : Addr} {y0 y1 y2 z0 z1 z2 : Str} {ty0 ty1 ty2 tz0 tz1 tz2 : Tok} {news : List (Addr × Obj)}
    (hh : A.handled = none) (hkind : scope.kind = .function) (k1 : scope.names.lookup (Str.ofString "typed") = some .local) (k2 : scope.names.lookup (Str.ofString "letters") = some .local) (hclos : closureFor scope env = pure cle) (hcell : ∀ y ∈ scope.names, y.2 ≠ .cell) (hnames : ∀ y ∈ scope.names, y.2 = .local → scope.names.lookup y.1 = some .local) (F : Fr h₀ L s.heap m) (N : News h₀ L s.heap news) (hpl : (pl, W.listOf #[.ref P0, .ref P1, .ref P2] pn) ∈ news) (hp0 : (P0, tup2 (.str y0 ty0) (.str z0 tz0)) ∈ news) (hp1 : (P1, tup2 (.str y1 ty1) (.str z1 tz1)) ∈ news) (hp2 : (P2, tup2 (.str y2 ty2) (.str z2 tz2)) ∈ news)
    (hev : wpAny (model PW w) A (eval (.Name (Str.ofString "pieces") pp) env) (fun v s' => v = .ref pl ∧ s' = s) E s)
    (hret : ∀ D h tk, Fr h₀ L h m → News h₀ L h ((D, W.listOf #[.str z0 tz0, .str z1 tz1, .str z2 tz2] 3) :: news) → (∀ p ∈ news, p.1 ≠ D) → Q (.ref D) { s with heap := h, toks := tk }) :
    wpAny (model PW w) A (eval (.ListComp (.Name (Str.ofString "letters") e1) [⟨(.Tuple [.Name (Str.ofString "typed") a1, .Name (Str.ofString "letters") a2] 0 a3), (.Name (Str.ofString "pieces") pp), [], 0⟩] scope pos) env) Q E s := by
  refine comp_list (ax := pl) (its := #[.ref P0, .ref P1, .ref P2]) (n0 := pn) (S := fun nw => (pl, W.listOf #[.ref P0, .ref P1, .ref P2] pn) ∈ nw) (body := bodyP (.Name (Str.ofString "letters") e1) (.Tuple [.Name (Str.ofString "typed") a1, .Name (Str.ofString "letters") a2] 0 a3) (.Name (Str.ofString "pieces") pp) scope pos cle env)
    (Fin := fun D ys nw => ys = [.str z0 tz0, .str z1 tz1, .str z2 tz2] ∧ nw = news)
    (bodyP_eq _ _ _ scope pos cle env) hh hclos hcell hkind hnames F N hpl hpl (fun _ h => h) (fun I C D s' hI hID hDC _ _ _ => ?_) (fun D h tk ys nw F' N' off' _ hf => ?_) (by intro _; rfl) hev
  · exact meant_turn (k := 2) (i := 0) hh hkind k1 k2 hID hDC (by show (0 : Nat) ≤ 100; decide) rfl hp0 (meant_turn (k := 1) (i := 1) hh hkind k1 k2 hID hDC (by show (1 : Nat) ≤ 100; decide) rfl hp1 (meant_turn (k := 0) (i := 2) hh hkind k1 k2 hID hDC (by show (2 : Nat) ≤ 100; decide) rfl hp2 ⟨rfl, rfl⟩))
  · obtain ⟨rfl, rfl⟩ := hf
    exact hret D h tk F' N' off'
theorem tape_comp {w : World} {mean : ExcName → Option Value} {mg mb : Str → Option Value} {dp un : Nat} {gd : Option (List Code)} {cn : Str} {cs : Scope} {a : Addr} {ccd : Value} {cl : List (Str × Addr)} {outer : List Env} {A₀ : Around} {base h₀ : Heap} {L : Addr} {m : Str → Option Value} {s : Shared} {Q E : Value → Shared → Prop}   {scope : Scope} {pos : Pos} {env : Env} {cle : List (Str × Addr)} {a1 a2 a3 px p1 pp e1 e2 e3 c1 c2 c3 c4 : Pos} {pl : Addr} {pn : Nat} {P0 P1 P2 : Addr} {y0 y1 y2 z0 z1 z2 : Str} {ty0 ty1 ty2 tz0 tz1 tz2 : Tok} {news : List (Addr × Obj)}
    (hkind : scope.kind = .function) (kx : scope.names.lookup (Str.ofString "sign") = some .local) (k1 : scope.names.lookup (Str.ofString "typed") = some .local) (k2 : scope.names.lookup (Str.ofString "letters") = some .local) (f1 : ∀ C, (compEnvC scope cle C env).kindOf (Str.ofString "in_table_b1") = some .globalImplicit) (f2 : ∀ C, (compEnvC scope cle C env).kindOf (Str.ofString "map_table_b3") = some .globalImplicit) (hge : env.globals = mainGlobals) (hclos : closureFor scope env = pure cle) (hcell : ∀ y ∈ scope.names, y.2 ≠ .cell) (hnames : ∀ y ∈ scope.names, y.2 = .local → scope.names.lookup y.1 = some .local) (B : Below A₀ base outer h₀) (X : (KF w.params).In h₀) (T : Top topProg LN mean mg mb h₀) (hk : cs.kind = .function) (hd : dp + 4 < recursionLimit) (hu : un + 32 < cLine) (F : Fr h₀ L s.heap m) (N : News h₀ L s.heap news) (hpl : (pl, W.listOf #[.ref P0, .ref P1, .ref P2] pn) ∈ news) (hp0 : (P0, tup2 (.str y0 ty0) (.str z0 tz0)) ∈ news) (hp1 : (P1, tup2 (.str y1 ty1) (.str z1 tz1)) ∈ news) (hp2 : (P2, tup2 (.str y2 ty2) (.str z2 tz2)) ∈ news) (q0 : PieceK y0 z0) (q1 : PieceK y1 z1) (q2 : PieceK y2 z2)
    (hev : wpAny (model PW w) (ktrTop dp un gd cn cs L a ccd cl outer) (eval (.Name (Str.ofString "pieces") pp) env) (fun v s' => v = .ref pl ∧ s' = s) E s)
    (hret : ∀ D u0 u1 u2 h tk, Fr h₀ L h m → News h₀ L h ((D, W.listOf #[.str z0 u0, .str z1 u1, .str z2 u2] 3) :: news) → (∀ p ∈ news, p.1 ≠ D) → Q (.ref D) { s with heap := h, toks := tk }) :
    wpAny (model PW w) (ktrTop dp un gd cn cs L a ccd cl outer) (eval (twoE (.Call (.Name (Str.ofString "map_table_b3") e1) [.Name (Str.ofString "sign") e2] [] e3) (.Tuple [.Name (Str.ofString "typed") a1, .Name (Str.ofString "letters") a2] 0 a3) (.Name (Str.ofString "pieces") pp) (.Name (Str.ofString "sign") px) (.Name (Str.ofString "typed") p1) (.UnaryOp .Not (.Call (.Name (Str.ofString "in_table_b1") c1) [.Name (Str.ofString "sign") c2] [] c3) c4) scope pos) env) Q E s := by
  refine comp_list (ax := pl) (its := #[.ref P0, .ref P1, .ref P2]) (n0 := pn) (S := fun nw => (pl, W.listOf #[.ref P0, .ref P1, .ref P2] pn) ∈ nw) (body := fun I C D => bodyO (.Call (.Name (Str.ofString "map_table_b3") e1) [.Name (Str.ofString "sign") e2] [] e3) (.Tuple [.Name (Str.ofString "typed") a1, .Name (Str.ofString "letters") a2] 0 a3) (.Name (Str.ofString "pieces") pp) (.Name (Str.ofString "sign") px) (.Name (Str.ofString "typed") p1) (.UnaryOp .Not (.Call (.Name (Str.ofString "in_table_b1") c1) [.Name (Str.ofString "sign") c2] [] c3) c4) scope pos (.ref I) (.ref D) (compEnvC scope cle C env))
    (Fin := fun D ys nw => ∃ u0 u1 u2, ys = [.str z0 u0, .str z1 u1, .str z2 u2] ∧ nw = news)
    (fun I C D => bodyO_eq _ _ _ _ _ _ scope pos _ _ _) rfl hclos hcell hkind hnames F N hpl hpl (fun _ h => h) (fun I C D s' hI hID hDC _ _ _ => ?_) (fun D h tk ys nw F' N' off' _ hf => ?_) (by intro _; rfl) hev
  · exact tape_turn (k := 2) (i := 0) hkind kx k1 k2 (f1 C) (f2 C) hge B X T hk hd hu hID hDC (by show (0 : Nat) ≤ 100; decide) rfl hp0 (pieceM q0) fun u0 => tape_turn (k := 1) (i := 1) hkind kx k1 k2 (f1 C) (f2 C) hge B X T hk hd hu hID hDC (by show (1 : Nat) ≤ 100; decide) rfl hp1 (pieceM q1) fun u1 => tape_turn (k := 0) (i := 2) hkind kx k1 k2 (f1 C) (f2 C) hge B X T hk hd hu hID hDC (by show (2 : Nat) ≤ 100; decide) rfl hp2 (pieceM q2) fun u2 => ⟨u0, u1, u2, rfl, rfl⟩
  · obtain ⟨u0, u1, u2, rfl, rfl⟩ := hf
    exact hret D u0 u1 u2 h tk F' N' off'
end Mine
end

section
open PySem PySem.W PyProof.Rows PySem.Spec PySem.Calls PyProof.V
open PyProof.Rows.LCg (NsObj Off3 Off1 lst ns_obj fr_but news_but lst_snoc)
set_option Elab.async false
set_option maxRecDepth 100000
namespace Mine
theorem kwn_LJ : True := by
  k_with_none
  trivial
theorem fillLJ : RW = RW ∧ KF = KF := by
  k_fill
  exact ⟨rfl, rfl⟩
set_option maxHeartbeats 0
set_option rowWalk.seconds 0
section
variable {prog : Program} {w : World} {A : Around} {E : Value → Shared → Prop} {s : Shared} {h₀ : Heap} {L : Addr} {m : Str → Option Value}
/-- a list comprehension whose first clause goes over a list that its source makes -/
theorem asg_listA {y : Str} {py spos : Pos} {elt tgt iter : PySem.Expr} {ifs : List PySem.Expr} {gs : List Comprehension} {scope : Scope} {pos : Pos} {env : Env} {cl : List (Str × Addr)} {its : Array Value} {n0 : Nat} {Q : Flow → Shared → Prop} {S : Addr → List (Addr × Obj) → Prop} {news : List (Addr × Obj)}
    {body : Addr → Addr → Addr → Value → Sem Fin} {p : Pos} {Fin : Addr → Addr → List Value → List (Addr × Obj) → Prop}
    (heq : ∀ I C D, compTurn (.ListComp elt (⟨tgt, iter, ifs, 0⟩ :: gs) scope pos) 0 (.ref I) (.ref D) (compEnvC scope cl C env) = (standAt p >>= fun _ => pyNext (.ref I) >>= fun r => match r with
      | none => pure (.done .next)
      | some v => body I C D v))
    (hLe : env.locals = L) (hsw : swapsWith (.ListComp elt (⟨tgt, iter, ifs, 0⟩ :: gs) scope pos) (some (.Name y py)) spos.line env = pure true) (hy : env.kindOf y = some .local) (hp : (env.scope.kind == .class || (env.scope.kind == .module && env.locals != env.globals)) = false)
    (hh : A.handled = none) (hclos : closureFor scope env = pure cl) (hcell : ∀ y ∈ scope.names, y.2 ≠ .cell) (hkind : scope.kind = .function)
    (hnames : ∀ y ∈ scope.names, y.2 = .local → scope.names.lookup y.1 = some .local)
    (hS : ∀ ax, S ax ((ax, W.listOf its n0) :: news)) (hSa : ∀ ax nw, S ax nw → (ax, W.listOf its n0) ∈ nw)
    (hR : ∀ ax I C D s', (∀ p ∈ news, @LT.lt Nat _ p.1 ax) → (∀ p ∈ (ax, W.listOf its n0) :: news, @LT.lt Nat _ p.1 I) → @LT.lt Nat _ I D → @LT.lt Nat _ D C → s'.gens = s.gens → s'.drawn = s.drawn → s'.os = s.os →
      XRest prog w A h₀ L m s' I C D (body I C D) (.compLoop (.ListComp elt (⟨tgt, iter, ifs, 0⟩ :: gs) scope pos) 0 (.ref I) (.ref D) (compEnvC scope cl C env)) (S ax) (fun i v => its[i]? = some v) (fun i h => h.IsListIter I ax i ∧ h.IsList ax its) (Fin ax D) its.size 0 [] ((ax, W.listOf its n0) :: news))
    (hfin : ∀ ax D h tk ys news', Fr h₀ L h (fun z => if z = y then some (.ref D) else m z) → News h₀ L h ((D, lst ys) :: news') → (∀ p ∈ news', p.1 ≠ D) → S ax news' → Fin ax D ys news' → Q .next { s with heap := h, toks := tk })
    (hs : ∀ x, foldedSetIterable iter env x = pure x := by intro _; rfl)
    (hev : wpAny (model prog w) A (eval iter env) (fun v s' => ∃ ax h1 tk1, v = .ref ax ∧ s' = { s with heap := h1, toks := tk1 } ∧ Fr h₀ L h1 m ∧ News h₀ L h1 ((ax, W.listOf its n0) :: news) ∧ (∀ p ∈ news, @LT.lt Nat _ p.1 ax)) E s) :
    wpAny (model prog w) A (exec (.Assign [.Name y py] (.ListComp elt (⟨tgt, iter, ifs, 0⟩ :: gs) scope pos) spos) env) Q E s := by
  subst hLe
  rw [exec_Assign_Name_used _ _ _ _ hsw]
  refine wpAny_bind (wpAny_standAt (wpAny_bind ?_))
  show wpAny _ A (do let _ ← comprehension (.ListComp elt (⟨tgt, iter, ifs, 0⟩ :: gs) scope pos) scope env _ (newList []) false (eval iter env) (some (assign (.Name y py) env))) _ _ s
  refine wpAny_bind (wpAny_mono (wpAny_comprehension_free (use := some (assign (.Name y py) env)) (Q := fun _ s' => Q .next s') rfl hs hclos hkind hnames (wpAny_mono hev (fun xv s₀ h₁ => ?_) fun _ _ e => e)) (fun _ s' hq => wpAny_pure (wpAny_pure hq)) fun _ _ e => e)
  obtain ⟨ax, hq, tkq, rfl, es, F, N, hlax⟩ := h₁
  obtain ⟨s₁, hs₁, F, N⟩ : ∃ s₁ : Shared, s₁ = { s with heap := hq, toks := tkq } ∧ Fr h₀ env.locals s₁.heap m ∧ News h₀ env.locals s₁.heap ((ax, W.listOf its n0) :: news) := ⟨_, rfl, F, N⟩
  rw [es, ← hs₁]
  have hax : (ax, W.listOf its n0) ∈ (ax, W.listOf its n0) :: news := .head _
  have hfin' : ∀ D h tk ys news', Fr h₀ env.locals h (fun z => if z = y then some (.ref D) else m z) → News h₀ env.locals h ((D, lst ys) :: news') → (∀ p ∈ news', p.1 ≠ D) → S ax news' → Fin ax D ys news' → Q .next { s₁ with heap := h, toks := tk } := by
    intro D h tk ys news' a b c d e
    rw [hs₁]
    exact hfin ax D h tk ys news' a b c d e
  clear hfin
  have hl : s₁.heap.IsList ax its := ⟨_, (N _ hax).1, rfl, _, rfl⟩
  have hlt : ax < s₁.heap.objs.size := Heap.lt_size (N _ hax).1
  refine wpAny_pyIter_list hl ?_
  refine wpAny_newObj_type (wpAny_newFunctionEnv hcell (by intro y hy; simp at hy) (fun h₁ hns₁ hsb₁ => ?_) hkind)
  dsimp only at hns₁ hsb₁ ⊢
  generalize hH1 : s₁.heap.push { cls := .type "list_iterator", data := .fields #[.ref ax, .int 0 0] } = H1 at hns₁ hsb₁ ⊢
  generalize hH2 : H1.push { cls := .type "list", dict := none, data := .seq ([] : List Value).toArray } = H2 at hns₁ hsb₁ ⊢
  have z1 : H1.objs.size = s₁.heap.objs.size + 1 := by rw [← hH1, Heap.size_push]
  have z2 : H2.objs.size = s₁.heap.objs.size + 2 := by rw [← hH2, Heap.size_push, z1]
  have old1 : ∀ b o, s₁.heap.get? b = some o → H1.get? b = some o := fun b o e => by rw [← hH1]; exact Heap.get?_push_of_some _ e
  have old2 : ∀ b o, H1.get? b = some o → H2.get? b = some o := fun b o e => by rw [← hH2]; exact Heap.get?_push_of_some _ e
  have hb2 : ∀ b o, H2.get? b = some o → b ≠ H2.objs.size := fun b o e => Nat.ne_of_lt (Heap.lt_size e)
  have old : ∀ b o, s₁.heap.get? b = some o → h₁.get? b = some o := fun b o e => hsb₁.extBut b o (hb2 _ _ (old2 _ _ (old1 _ _ e))) (Heap.get?_push_of_some _ (old2 _ _ (old1 _ _ e)))
  have hI : H1.get? s₁.heap.objs.size = some { cls := .type "list_iterator", data := .fields #[.ref ax, .int 0 0] } := by rw [← hH1]; exact Heap.get?_push_size _ rfl
  have hI1 : h₁.get? s₁.heap.objs.size = some { cls := .type "list_iterator", data := .fields #[.ref ax, .int 0 0] } := hsb₁.extBut _ _ (hb2 _ _ (old2 _ _ hI)) (Heap.get?_push_of_some _ (old2 _ _ hI))
  have hD : H2.get? H1.objs.size = some (lst []) := by rw [← hH2]; exact Heap.get?_push_size _ rfl
  have hD1 : h₁.get? H1.objs.size = some (lst []) := hsb₁.extBut _ _ (hb2 _ _ hD) (Heap.get?_push_of_some _ hD)
  have F1 : Fr h₀ env.locals h₁ m := F.keeps old
  have Llt := F.ns.lt
  have lt0 : ∀ p ∈ (ax, W.listOf its n0) :: news, @LT.lt Nat _ p.1 s₁.heap.objs.size := fun p hp => Heap.lt_size (N p hp).1
  have cI : s₁.heap.objs.size ≠ H2.objs.size := by rw [z2]; exact Nat.ne_of_lt (by omega)
  have dI : s₁.heap.objs.size ≠ H1.objs.size := by rw [z1]; exact Nat.ne_of_lt (by omega)
  have loop : codeAny (model prog w) A (.compLoop (.ListComp elt (⟨tgt, iter, ifs, 0⟩ :: gs) scope pos) 0 (.ref s₁.heap.objs.size) (.ref H1.objs.size) (compEnvC scope cl H2.objs.size env)) (compPost (model prog w) A E (some (assign (.Name y py) env)) (fun _ s' => Q .next s') (.ref H1.objs.size) H2.objs.size)
      { s₁ with heap := h₁, toks := s₁.toks + ([] : List (Str × Value)).length } := by
    refine compX (s := { s₁ with heap := h₁, toks := s₁.toks + ([] : List (Str × Value)).length }) (heq _ _ _) (Walks.list hh s₁.heap.objs.size ax (Nat.ne_of_lt hlt) its) (fun i h st => by obtain ⟨o, e, _⟩ := st.1; exact ⟨o, e⟩)
      (fun i h h' o nw st e1 e2 _ NN SS => ?_) (Nat.ne_of_lt Llt) (next_new F (Nat.le_refl _)) (fun q => ?_) (next_new F (by rw [z2]; omega)) cI dI
      ⟨⟨_, hI1, rfl, rfl⟩, ⟨_, old _ _ (N _ hax).1, rfl, _, rfl⟩⟩ F1 hns₁ (fun p hp => ?_) (Off3.of fun p hp => ⟨Nat.ne_of_lt (lt0 p hp), Nat.ne_of_lt (Nat.lt_trans (lt0 p hp) (by rw [z2]; omega)), Nat.ne_of_lt (Nat.lt_trans (lt0 p hp) (by rw [z1]; omega))⟩) (hS ax) (hR ax _ _ _ _ hlax lt0 (by rw [z1]; omega) (by rw [z1, z2]; omega) (by rw [hs₁]) (by rw [hs₁]) (by rw [hs₁])) (fun h tk mC ys nw F' hn N' off' S' fin => ?_)
    · refine ⟨?_, ⟨_, (NN _ (hSa ax _ SS)).1, rfl, _, rfl⟩⟩
      obtain ⟨o', e, r⟩ := st.1
      rw [e1] at e; cases e
      exact ⟨_, e2, r⟩
    · rw [z2] at q; exact absurd Llt (by rw [← q]; exact Nat.not_lt.mpr (by omega))
    · rcases List.mem_cons.mp hp with rfl | hp
      · exact ⟨hD1, fun q => absurd Llt (by rw [← q, z1]; exact Nat.not_lt.mpr (by omega)), next_new F (by rw [z1]; omega)⟩
      · exact ⟨old _ _ (N p hp).1, (N p hp).2⟩
    · have o3 := off'.mem
      have hC₀ : h₀.get? H2.objs.size = none := next_new F (by rw [z2]; omega)
      have hCL : H2.objs.size ≠ env.locals := fun q => absurd Llt (by rw [← q, z2]; exact Nat.not_lt.mpr (by omega))
      show wpAny _ A (assign (.Name y py) env (.ref H1.objs.size)) _ _ _
      refine wpAny_assign_Name (wpAny_storeName_local hy F'.ns (fun h₂ hn₂ hs₂ => ?_) hp)
      have hL₀ : h₀.get? env.locals = none := Heap.get?_none_of_le F'.above
      have F₂ : Fr h₀ env.locals h₂ (fun z => if z = y then some (.ref H1.objs.size) else m z) := ⟨hn₂, fun b o e => hs₂.extBut b o (fun q => by rw [q, hL₀] at e; cases e) (F'.keep b o e), F'.above⟩
      refine ⟨mC, hn.sameBut hs₂ hCL, fun h'' hs'' => hfin' _ h'' _ ys nw (F₂.change hs'' hCL hC₀) (fun p hp => ?_) (fun p hp => (o3 p hp).2.2) S' fin⟩
      have z : h₂.get? p.1 = some p.2 := hs₂.extBut _ _ (N' p hp).2.1 (N' p hp).1
      refine ⟨hs''.extBut _ _ ?_ z, (N' p hp).2⟩
      rcases List.mem_cons.mp hp with rfl | hp
      · rw [z1, z2]; exact Nat.ne_of_lt (by omega)
      · exact (o3 p hp).2.1
  refine codeAny_compStart_list loop ?_
  refine (Walks.list hh s₁.heap.objs.size ax (Nat.ne_of_lt hlt) its).self 0 _ _ _ ⟨⟨_, hI1, rfl, rfl⟩, ⟨_, old _ _ (N _ hax).1, rfl, _, rfl⟩⟩ loop
end
theorem pieces_asg {w : World} {mean : ExcName → Option Value} {mg mb : Str → Option Value} {dp un : Nat} {gd : Option (List Code)} {cn : Str} {cs : Scope} {a : Addr} {ccd : Value} {cl : List (Str × Addr)} {outer : List Env} {A₀ : Around} {base h₀ : Heap} {L : Addr} {m : Str → Option Value} {s : Shared} {Q : Flow → Shared → Prop} {E : Value → Shared → Prop} {y9 : Str} {py spos : Pos}   {scope : Scope} {pos : Pos} {env : Env} {cle : List (Str × Addr)} {px e1 e2 e3 g1 g2 g3 g4 : Pos} {G : Addr} {x0 x1 x2 x3 : Int} {tx0 tx1 tx2 tx3 : Tok} {n : Nat} {news : List (Addr × Obj)}
    (hLe : env.locals = L) (hsw : swapsWith (.ListComp (.Call (.Name (Str.ofString "_law_piece") e1) [.Name (Str.ofString "x") e2] [] e3) [⟨.Name (Str.ofString "x") px, (.Subscript (.Name (Str.ofString "given") g1) (.Slice (some (.Constant (.int 1) 0 g2)) none none g3) g4), [], 0⟩] scope pos) (some (.Name y9 py)) spos.line env = pure true) (hy : env.kindOf y9 = some .local) (hp : (env.scope.kind == .class || (env.scope.kind == .module && env.locals != env.globals)) = false)
    (hkind : scope.kind = .function) (kx : scope.names.lookup (Str.ofString "x") = some .local) (f1 : ∀ C, (compEnvC scope cle C env).kindOf (Str.ofString "_law_piece") = some .globalImplicit) (hge : env.globals = mainGlobals) (hclos : closureFor scope env = pure cle) (hcell : ∀ y ∈ scope.names, y.2 ≠ .cell) (hnames : ∀ y ∈ scope.names, y.2 = .local → scope.names.lookup y.1 = some .local) (B : Below A₀ base outer h₀) (X : (KF w.params).In h₀) (T : Top topProg LN mean mg mb h₀) (hk : cs.kind = .function) (hd : dp + 4 < recursionLimit) (hu : un + 32 < cLine) (F : Fr h₀ L s.heap m) (N : News h₀ L s.heap news) (hG : (G, W.listOf #[.int x0 tx0, .int x1 tx1, .int x2 tx2, .int x3 tx3] n) ∈ news) (b1 : 0 ≤ x1 ∧ x1 < 1000000000) (b2 : 0 ≤ x2 ∧ x2 < 1000000000) (b3 : 0 ≤ x3 ∧ x3 < 1000000000)
    (hev : wpAny (model PW w) (ktrTop dp un gd cn cs L a ccd cl outer) (eval (.Name (Str.ofString "given") g1) env) (fun v s' => v = .ref G ∧ s' = s) E s)
    (hret : ∀ pl (P0 P1 P2 : Addr) (y0 y1 y2 z0 z1 z2 : Str) (ty0 ty1 ty2 tz0 tz1 tz2 : Tok) h tk, PieceK y0 z0 → PieceK y1 z1 → PieceK y2 z2 → Fr h₀ L h (fun z => if z = y9 then some (.ref pl) else m z) → News h₀ L h ((pl, W.listOf #[.ref P0, .ref P1, .ref P2] 3) :: (P2, tup2 (.str y2 ty2) (.str z2 tz2)) :: (P1, tup2 (.str y1 ty1) (.str z1 tz1)) :: (P0, tup2 (.str y0 ty0) (.str z0 tz0)) :: news) → Q .next { s with heap := h, toks := tk }) :
    wpAny (model PW w) (ktrTop dp un gd cn cs L a ccd cl outer) (exec (.Assign [.Name y9 py] (.ListComp (.Call (.Name (Str.ofString "_law_piece") e1) [.Name (Str.ofString "x") e2] [] e3) [⟨.Name (Str.ofString "x") px, (.Subscript (.Name (Str.ofString "given") g1) (.Slice (some (.Constant (.int 1) 0 g2)) none none g3) g4), [], 0⟩] scope pos) spos) env) Q E s := by
  refine asg_listA (its := #[.int x1 tx1, .int x2 tx2, .int x3 tx3]) (n0 := 0) (h₀ := h₀) (L := L) (m := m) (news := news) (S := fun ax nw => (ax, W.listOf #[.int x1 tx1, .int x2 tx2, .int x3 tx3] 0) ∈ nw) (body := bodyP (.Call (.Name (Str.ofString "_law_piece") e1) [.Name (Str.ofString "x") e2] [] e3) (.Name (Str.ofString "x") px) (.Subscript (.Name (Str.ofString "given") g1) (.Slice (some (.Constant (.int 1) 0 g2)) none none g3) g4) scope pos cle env)
    (Fin := fun ax D ys nw => ∃ (P0 P1 P2 : Addr) (y0 y1 y2 z0 z1 z2 : Str) (ty0 ty1 ty2 tz0 tz1 tz2 : Tok), ys = [.ref P0, .ref P1, .ref P2] ∧ nw = (P2, tup2 (.str y2 ty2) (.str z2 tz2)) :: (P1, tup2 (.str y1 ty1) (.str z1 tz1)) :: (P0, tup2 (.str y0 ty0) (.str z0 tz0)) :: (ax, W.listOf #[.int x1 tx1, .int x2 tx2, .int x3 tx3] 0) :: news ∧ PieceK y0 z0 ∧ PieceK y1 z1 ∧ PieceK y2 z2)
    (bodyP_eq _ _ _ scope pos cle env) hLe hsw hy hp rfl hclos hcell hkind hnames (fun _ => .head _) (fun _ _ h => h) (fun ax I C D s' hax hI2 hID hDC e1 e2 e3 => ?_) (fun ax D h tk ys nw F' N' off' _ hf => ?_) (by intro _; rfl) ?_
  · exact piece_turn (k := 2) (i := 0) hkind kx f1 hge B X T hk hd hu hID hDC (by show (0 : Nat) ≤ 100; decide) rfl b1.1 b1.2 fun P0 y0 z0 ty0 tz0 q0 => piece_turn (k := 1) (i := 1) hkind kx f1 hge B X T hk hd hu hID hDC (by show (1 : Nat) ≤ 100; decide) rfl b2.1 b2.2 fun P1 y1 z1 ty1 tz1 q1 => piece_turn (k := 0) (i := 2) hkind kx f1 hge B X T hk hd hu hID hDC (by show (2 : Nat) ≤ 100; decide) rfl b3.1 b3.2 fun P2 y2 z2 ty2 tz2 q2 =>
      ⟨P0, P1, P2, y0, y1, y2, z0, z1, z2, ty0, ty1, ty2, tz0, tz1, tz2, rfl, rfl, q0, q1, q2⟩
  · obtain ⟨P0, P1, P2, y0, y1, y2, z0, z1, z2, ty0, ty1, ty2, tz0, tz1, tz2, rfl, rfl, q0, q1, q2⟩ := hf
    refine hret D P0 P1 P2 y0 y1 y2 z0 z1 z2 ty0 ty1 ty2 tz0 tz1 tz2 h tk q0 q1 q2 F' (cb_drop N' fun p hp => ?_)
    simp only [List.mem_cons] at hp ⊢
    rcases hp with h | h | h | h | h <;> simp [h]
  · refine Subscript_ (wpAny_mono hev (fun v s' h => ?_) fun _ _ e => e)
    obtain ⟨rfl, rfl⟩ := h
    refine wpAny_Slice (evalPart_some_step (wpAny_Constant_int (evalPart_none_step (evalPart_none_step ?_))))
    refine kmk_slice_lit (s := { s' with toks := s'.toks + 1 }) (zs := [.int x1 tx1, .int x2 tx2, .int x3 tx3]) F N ⟨_, (N _ hG).1, rfl, _, rfl⟩ (IsPart.int _ _) IsPart.none (by with_unfolding_all rfl) (fun D h' F' N' l1 => ⟨D, h', _, rfl, rfl, F', N', l1⟩) (by with_unfolding_all rfl) (by intro _; rfl) (Nat.le_of_ble_eq_true rfl)
end Mine
end

section
open PySem PySem.W PyProof.Rows PySem.Spec PySem.Calls PyProof.V
set_option Elab.async false
set_option maxRecDepth 100000
namespace Mine
theorem kwn_LK : True := by
  k_with_none
  trivial
noncomputable def AllNe : List (Addr × Obj) → Addr → Prop
  | [], _ => True
  | p :: r, D => ¬ @Eq Nat p.1 D ∧ AllNe r D
theorem allNe_of {D : Addr} : ∀ {l : List (Addr × Obj)}, (∀ p ∈ l, p.1 ≠ D) → AllNe l D
  | [], _ => trivial
  | _ :: _, h => ⟨h _ (.head _), allNe_of fun p hp => h p (.tail _ hp)⟩
theorem join_flat : ∀ ys : List Str, PySem.Txt.join (Str.ofString "") ys = ⟨(ys.flatMap fun y => y.cps.toList).toArray⟩ := by
  intro ys
  unfold PySem.Txt.join
  rw [PySem.StrLaws.glued_eq_join]
  induction ys with
  | nil => rfl
  | cons x r ih =>
    cases r with
    | nil =>
      show x = _
      obtain ⟨c⟩ := x
      simp
    | cons y r =>
      show x ++ Str.ofString "" ++ Str.join (Str.ofString "") (y :: r) = _
      rw [ih]
      have e0 : Str.ofString "" = (⟨#[]⟩ : Str) := by decide +kernel
      rw [e0]
      refine PySem.Str.ext' ?_
      simp [PySem.Str.cps_append]
section
variable {prog : Program} {w : World} {A : Around} {E : Value → Shared → Prop} {s : Shared} {h₀ : Heap} {L : Addr} {news : List (Addr × Obj)} {Q : Value → Shared → Prop}
theorem join_tapes {D : Addr} {n : Nat} {l0 l1 l2 : List (_root_.Fin 3)} {t u0 u1 u2 : Tok} (N : News h₀ L s.heap news) (hm : (D, W.listOf #[.str (tapeS l0) u0, .str (tapeS l1) u1, .str (tapeS l2) u2] n) ∈ news)
    (b0 : l0.length ≤ 3) (b1 : l1.length ≤ 3) (b2 : l2.length ≤ 3) (h : ∀ t' k, Q (.str (tapeS (l0 ++ (l1 ++ l2))) t') { s with toks := k }) :
    wpAny (model prog w) A (call (.builtin "str.join") [.str (Str.ofString "") t, .ref D]) Q E s := by
  refine join_listC (ys := [tapeS l0, tapeS l1, tapeS l2]) ⟨_, (N _ hm).1, rfl, _, rfl⟩ (.cons _ _ (.cons _ _ (.cons _ _ .nil))) (by decide) ?_ fun t' k => ?_
  · simp only [List.map_cons, List.map_nil, List.sum_cons, List.sum_nil, List.length_cons, List.length_nil, tapeS_len]
    omega
  · have e : PySem.Txt.join (Str.ofString "") [tapeS l0, tapeS l1, tapeS l2] = tapeS (l0 ++ (l1 ++ l2)) := by
      rw [join_flat]
      show Str.mk _ = Str.mk _
      simp [tapeS]
    rw [e]
    exact h t' k
theorem add_dot {l : List (_root_.Fin 3)} {t u : Tok} (hl : l.length ≤ 9) (h : ∀ t' k, Q (.str (tapeS (2 :: l)) t') { s with toks := k }) :
    wpAny (model prog w) A (binaryOp .Add (.str (Str.ofString ".") t) (.str (tapeS l) u)) Q E s := by
  have e : Str.ofString "." ++ tapeS l = tapeS (2 :: l) := by
    have e1 : Str.ofString "." = tapeS [2] := by decide +kernel
    rw [e1, tapeS_app]; rfl
  refine add_str (fun t' k => ?_) ?_
  · rw [e]; exact h t' k
  · rw [tapeS_len]
    have : (Str.ofString ".").length = 1 := by decide +kernel
    rw [this]
    exact Nat.le_trans (show 1 + l.length ≤ 10 by omega) (Nat.le_of_ble_eq_true rfl)
end
end Mine
end

section
open PySem PySem.W PyProof.Rows PySem.Spec PySem.Calls PyProof.V
set_option Elab.async false
set_option maxRecDepth 100000
namespace Mine
theorem kwn_LL : True := by
  k_with_none
  trivial
theorem law_cells {h₀ h : Heap} {L G a3 a2 a1 t1 t2 : Addr} {og o3 o2 o1 x1 x2 : Obj} {v3 v2 v1 : Option Value} {P : Prop} (N : News h₀ L h [(G, og), (a3, o3), (a2, o2), (a1, o1), (t1, x1), (t2, x2)]) (d3 : o3.data = .cell v3) (d2 : o2.data = .cell v2) (d1 : o1.data = .cell v1)
    (K : ∀ q3 q2 q1 : Obj, q3.data = .cell v3 → q2.data = .cell v2 → q1.data = .cell v1 → News h₀ L h [(a3, q3), (a2, q2), (a1, q1), (t1, x1), (t2, x2)] → P) : P :=
  K o3 o2 o1 d3 d2 d1 (cb_drop N fun _ hp => .tail _ hp)
theorem off_of2 {rest led : List (Addr × Obj)} (h : ∀ p ∈ rest, ∀ q ∈ led, q.1 ≠ p.1) : ∀ p ∈ rest, p.1 ∉ led.map (·.1) := by
  intro p hp hm
  obtain ⟨q, hq, e⟩ := List.mem_map.mp hm
  exact h p hp q hq e
section
variable {M : Model} {A : Around} {E : Value → Shared → Prop} {s : Shared} {h₀ : Heap} {L c a : Addr} {m : Str → Option Value} {all r : List (Addr × Obj)} {o : Obj} {v0 : Option Value} {v ccd : Value} {Q : Unit → Shared → Prop} {cn x : Str} {cs : Scope} {cl : List (Str × Addr)}
theorem st_cell (F : Fr h₀ L s.heap m) (N : News h₀ L s.heap all) (R : Rem (c, o) all r) (hne : ∀ p ∈ r, p.1 ≠ c) (hc : cl.lookup x = some c) (hd : o.data = .cell v0)
    (h : ∀ h' o', Fr h₀ L h' m → News h₀ L h' ((c, o') :: r) → o'.data = .cell (some v) → Q () { s with heap := h' })
    (hk : cs.kind = .function := by rfl) (hx : (envX cn cs L a ccd cl).kindOf x = some .cell := by rfl) : wpAny M A (storeName (envX cn cs L a ccd cl) x v) Q E s := by
  have hmem := N _ R.mem
  refine wpAny_storeName_cell hk hx hc ⟨o, hmem.1, hd⟩ fun h' hv hs => ?_
  obtain ⟨o', ho', hd'⟩ := hv
  refine h h' o' ⟨F.ns.sameBut hs (Ne.symm hmem.2.1), fun b ob e => (hs.2 b (fun q => ?_)).trans (F.keep b ob e), F.above⟩ (fun p hp => ?_) hd'
  · rw [q, hmem.2.2] at e; cases e
  · rcases List.mem_cons.mp hp with rfl | hp
    · exact ⟨ho', hmem.2⟩
    · have z := N p (R.sub p hp)
      exact ⟨(hs.2 _ (hne p hp)).trans z.1, z.2⟩
end
end Mine
namespace Mine
theorem offB {a3 a2 a1 : Addr} {x y z x' y' z' : Obj} {led : List (Addr × Obj)} (h : ∀ p ∈ [(a3, x), (a2, y), (a1, z)], ∀ q ∈ led, q.1 ≠ p.1) : ∀ p ∈ [(a3, x'), (a2, y'), (a1, z')], ∀ q ∈ led, q.1 ≠ p.1 := by
  intro p hp q hq
  simp only [List.mem_cons, List.not_mem_nil, or_false] at hp
  rcases hp with rfl | rfl | rfl
  · exact h (a3, x) (.head _) q hq
  · exact h (a2, y) (.tail _ (.head _)) q hq
  · exact h (a1, z) (.tail _ (.tail _ (.head _))) q hq
theorem news_swap {h₀ h : Heap} {L : Addr} {p q : Addr × Obj} {r : List (Addr × Obj)} (N : News h₀ L h (p :: q :: r)) : News h₀ L h (q :: p :: r) := cb_drop N fun z hz => by
  rcases List.mem_cons.mp hz with rfl | hz
  · exact .tail _ (.head _)
  rcases List.mem_cons.mp hz with rfl | hz
  · exact .head _
  · exact .tail _ (.tail _ hz)
end Mine
end

section
open PySem PySem.W PyProof.Rows PySem.Spec PySem.Calls PyProof.V
open PyProof.Rows.LCg (NsObj Off3 Off1 lst ns_obj fr_but news_but lst_snoc)
set_option Elab.async false
set_option maxRecDepth 100000
namespace Mine
theorem kwn_LM : True := by
  k_with_none
  trivial
theorem fillLM : RW = RW ∧ KF = KF := by
  k_fill
  exact ⟨rfl, rfl⟩
set_option maxHeartbeats 0
set_option rowWalk.seconds 0
section
variable {prog : Program} {w : World} {A : Around} {E : Value → Shared → Prop} {s : Shared} {h₀ : Heap} {L : Addr} {m : Str → Option Value}
/-- a list comprehension over a text -/
theorem comp_strA {elt tgt iter : PySem.Expr} {ifs : List PySem.Expr} {gs : List Comprehension} {scope : Scope} {pos : Pos} {env : Env} {cl : List (Str × Addr)} {x0 : Str} {t0 : Tok} {Q : Value → Shared → Prop}  {news : List (Addr × Obj)}
    {body : Addr → Addr → Addr → Value → Sem Fin} {p : Pos} {Fin : Addr → List Value → List (Addr × Obj) → Prop}
    (heq : ∀ I C D, compTurn (.ListComp elt (⟨tgt, iter, ifs, 0⟩ :: gs) scope pos) 0 (.ref I) (.ref D) (compEnvC scope cl C env) = (standAt p >>= fun _ => pyNext (.ref I) >>= fun r => match r with
      | none => pure (.done .next)
      | some v => body I C D v))
    (hh : A.handled = none) (hclos : closureFor scope env = pure cl) (hcell : ∀ y ∈ scope.names, y.2 ≠ .cell) (hkind : scope.kind = .function)
    (hnames : ∀ y ∈ scope.names, y.2 = .local → scope.names.lookup y.1 = some .local)
    (F : Fr h₀ L s.heap m) (N : News h₀ L s.heap news)
    (hR : ∀ I C D s' ty, (∀ p ∈ news, @LT.lt Nat _ p.1 I) → @LT.lt Nat _ I D → @LT.lt Nat _ D C → s'.gens = s.gens → s'.drawn = s.drawn → s'.os = s.os →
      XRest prog w A h₀ L m s' I C D (body I C D) (.compLoop (.ListComp elt (⟨tgt, iter, ifs, 0⟩ :: gs) scope pos) 0 (.ref I) (.ref D) (compEnvC scope cl C env)) (fun _ => True) (SignAt x0) (fun i h => h.IsStrIter I ty x0 t0 i) (Fin D) x0.cps.size 0 [] news)
    (hfin : ∀ D h tk ys news', Fr h₀ L h m → News h₀ L h ((D, lst ys) :: news') → (∀ p ∈ news', p.1 ≠ D) → Fin D ys news' → Q (.ref D) { s with heap := h, toks := tk })
    (hs : ∀ x, foldedSetIterable iter env x = pure x := by intro _; rfl)
    (hev : wpAny (model prog w) A (eval iter env) (fun v s' => ∃ tk1, v = .str x0 t0 ∧ s' = { s with toks := tk1 }) E s) :
    wpAny (model prog w) A (eval (.ListComp elt (⟨tgt, iter, ifs, 0⟩ :: gs) scope pos) env) Q E s := by
  rw [eval_ListComp]
  refine wpAny_comprehension_free (use := none) rfl hs hclos hkind hnames (wpAny_mono hev (fun xv s₀ h₁ => ?_) fun _ _ e => e)
  obtain ⟨tkq, rfl, es⟩ := h₁
  obtain ⟨s₁, hs₁, F, N⟩ : ∃ s₁ : Shared, s₁ = { s with toks := tkq } ∧ Fr h₀ L s₁.heap m ∧ News h₀ L s₁.heap news := ⟨_, rfl, F, N⟩
  rw [es, ← hs₁]
  have hfin' : ∀ D h tk ys news', Fr h₀ L h m → News h₀ L h ((D, lst ys) :: news') → (∀ p ∈ news', p.1 ≠ D) → Fin D ys news' → Q (.ref D) { s₁ with heap := h, toks := tk } := by
    intro D h tk ys news' a b c d
    rw [hs₁]
    exact hfin D h tk ys news' a b c d
  clear hfin
  refine iter2 fun ty WW => ?_
  refine wpAny_newObj_type (wpAny_newFunctionEnv hcell (by intro y hy; simp at hy) (fun h₁ hns₁ hsb₁ => ?_) hkind)
  dsimp only at hns₁ hsb₁ ⊢
  generalize hH1 : s₁.heap.push { cls := .type ty, data := .fields #[.str x0 t0, .int 0 0] } = H1 at hns₁ hsb₁ ⊢
  generalize hH2 : H1.push { cls := .type "list", dict := none, data := .seq ([] : List Value).toArray } = H2 at hns₁ hsb₁ ⊢
  have z1 : H1.objs.size = s₁.heap.objs.size + 1 := by rw [← hH1, Heap.size_push]
  have z2 : H2.objs.size = s₁.heap.objs.size + 2 := by rw [← hH2, Heap.size_push, z1]
  have old1 : ∀ b o, s₁.heap.get? b = some o → H1.get? b = some o := fun b o e => by rw [← hH1]; exact Heap.get?_push_of_some _ e
  have old2 : ∀ b o, H1.get? b = some o → H2.get? b = some o := fun b o e => by rw [← hH2]; exact Heap.get?_push_of_some _ e
  have hb2 : ∀ b o, H2.get? b = some o → b ≠ H2.objs.size := fun b o e => Nat.ne_of_lt (Heap.lt_size e)
  have old : ∀ b o, s₁.heap.get? b = some o → h₁.get? b = some o := fun b o e => hsb₁.extBut b o (hb2 _ _ (old2 _ _ (old1 _ _ e))) (Heap.get?_push_of_some _ (old2 _ _ (old1 _ _ e)))
  have hI : H1.get? s₁.heap.objs.size = some { cls := .type ty, data := .fields #[.str x0 t0, .int 0 0] } := by rw [← hH1]; exact Heap.get?_push_size _ rfl
  have hI1 : h₁.get? s₁.heap.objs.size = some { cls := .type ty, data := .fields #[.str x0 t0, .int 0 0] } := hsb₁.extBut _ _ (hb2 _ _ (old2 _ _ hI)) (Heap.get?_push_of_some _ (old2 _ _ hI))
  have hD : H2.get? H1.objs.size = some (lst []) := by rw [← hH2]; exact Heap.get?_push_size _ rfl
  have hD1 : h₁.get? H1.objs.size = some (lst []) := hsb₁.extBut _ _ (hb2 _ _ hD) (Heap.get?_push_of_some _ hD)
  have F1 : Fr h₀ L h₁ m := F.keeps old
  have Llt := F.ns.lt
  have lt0 : ∀ p ∈ news, @LT.lt Nat _ p.1 s₁.heap.objs.size := fun p hp => Heap.lt_size (N p hp).1
  have cI : s₁.heap.objs.size ≠ H2.objs.size := by rw [z2]; exact Nat.ne_of_lt (by omega)
  have dI : s₁.heap.objs.size ≠ H1.objs.size := by rw [z1]; exact Nat.ne_of_lt (by omega)
  have loop : codeAny (model prog w) A (.compLoop (.ListComp elt (⟨tgt, iter, ifs, 0⟩ :: gs) scope pos) 0 (.ref s₁.heap.objs.size) (.ref H1.objs.size) (compEnvC scope cl H2.objs.size env)) (compPost (model prog w) A E none Q (.ref H1.objs.size) H2.objs.size)
      { s₁ with heap := h₁, toks := s₁.toks + ([] : List (Str × Value)).length } := by
    refine compX (s := { s₁ with heap := h₁, toks := s₁.toks + ([] : List (Str × Value)).length }) (heq _ _ _) (S := fun _ => True) (WW _ hh _) (fun i h st => by obtain ⟨o, e, _⟩ := st; exact ⟨o, e⟩)
      (fun i h h' o nw st e1 e2 _ NN SS => ?_) (Nat.ne_of_lt Llt) (next_new F (Nat.le_refl _)) (fun q => ?_) (next_new F (by rw [z2]; omega)) cI dI
      ⟨_, hI1, rfl, rfl⟩ F1 hns₁ (fun p hp => ?_) (Off3.of fun p hp => ⟨Nat.ne_of_lt (lt0 p hp), Nat.ne_of_lt (Nat.lt_trans (lt0 p hp) (by rw [z2]; omega)), Nat.ne_of_lt (Nat.lt_trans (lt0 p hp) (by rw [z1]; omega))⟩) trivial (hR _ _ _ _ ty lt0 (by rw [z1]; omega) (by rw [z1, z2]; omega) (by rw [hs₁]) (by rw [hs₁]) (by rw [hs₁])) (fun h tk mC ys nw F' hn N' off' S' fin => ?_)
    · obtain ⟨o', e, r⟩ := st
      rw [e1] at e; cases e
      exact ⟨_, e2, r⟩
    · rw [z2] at q; exact absurd Llt (by rw [← q]; exact Nat.not_lt.mpr (by omega))
    · rcases List.mem_cons.mp hp with rfl | hp
      · exact ⟨hD1, fun q => absurd Llt (by rw [← q, z1]; exact Nat.not_lt.mpr (by omega)), next_new F (by rw [z1]; omega)⟩
      · exact ⟨old _ _ (N p hp).1, (N p hp).2⟩
    · have o3 := off'.mem
      have hC₀ : h₀.get? H2.objs.size = none := next_new F (by rw [z2]; omega)
      have hCL : H2.objs.size ≠ L := fun q => absurd Llt (by rw [← q, z2]; exact Nat.not_lt.mpr (by omega))
      refine ⟨mC, hn, fun h'' hs'' => hfin' _ h'' tk ys nw (F'.change hs'' hCL hC₀) (fun p hp => ?_) (fun p hp => (o3 p hp).2.2) fin⟩
      refine ⟨hs''.extBut _ _ ?_ (N' p hp).1, (N' p hp).2⟩
      rcases List.mem_cons.mp hp with rfl | hp
      · rw [z1, z2]; exact Nat.ne_of_lt (by omega)
      · exact (o3 p hp).2.1
  refine codeAny_compStart_list loop ?_
  refine (WW _ hh _).self 0 _ _ _ ⟨_, hI1, rfl, rfl⟩ loop
end
end Mine
end

section
open PySem PySem.W PyProof.Rows PySem.Spec PySem.Calls PyProof.V
open PyProof.Rows.LCg (NsObj Off3 Off1 lst ns_obj fr_but news_but lst_snoc)
set_option Elab.async false
set_option maxRecDepth 100000
namespace Mine
theorem kwn_LN : True := by
  k_with_none
  trivial
theorem fillLN : RW = RW ∧ KF = KF := by
  k_fill
  exact ⟨rfl, rfl⟩
set_option maxHeartbeats 0
set_option rowWalk.seconds 0
open Plain in
theorem item_pqr {prog : Program} {w : World} {A : Around} {E : Value → Shared → Prop} {s : Shared} {Q : Value → Shared → Prop} {value slice : PySem.Expr} {z : Int} {o : Option (_root_.Fin 3)} {t u : Tok} (hz : z = (enc o : Int)) (h : ∀ t' k, Q (.str ⟨#[lE o]⟩ t') { s with toks := k })
    (hs : subscripted slice false (.str (Str.ofString "-pqr") t) (.int z u) = operate [.str (Str.ofString "-pqr") t, .int z u] (getItem (.str (Str.ofString "-pqr") t) (.int z u)) := by with_unfolding_all rfl)
    (ht : ∀ r, letTemporaryGo value (.str (Str.ofString "-pqr") t) r = pure () := by intro _; with_unfolding_all rfl) :
    wpAny (model prog w) A (subscriptTail value slice (.str (Str.ofString "-pqr") t) (.int z u)) Q E s := by
  have hb := enc_lt o
  refine KXi.item (n := 4) (by decide +kernel) (by omega) (by omega) (by decide) (fun _ => ?_) hs ht
  rw [hz, item_enc]
  exact h _ _
theorem fmod4 {x : Int} (h : 0 ≤ x) : x.fmod 4 = x % 4 := Int.fmod_eq_emod_of_nonneg _ (by decide)
open Plain in
theorem first_elt {w : World} {A : Around} {E : Value → Shared → Prop} {s : Shared} {h₀ : Heap} {L : Addr} {m : Str → Option Value} {I C D : Addr} {oI oC : Obj} {ys : List Value} {news : List (Addr × Obj)} {mC : Str → Option Value} {env : Env} {scope : Scope} {cle : List (Str × Addr)} {e1 e2 e3 e4 e5 : Pos} {x : Int} {tx : Tok} {o : Option (_root_.Fin 3)}
    (hx0 : 0 ≤ x) (hx : x % 4 = (enc o : Int)) (hkind : scope.kind = .function) (kx : scope.names.lookup (Str.ofString "number") = some .local)
    (F : Fr h₀ L s.heap m) (N : News h₀ L s.heap ((I, oI) :: (C, oC) :: (D, lst ys) :: news)) (ho : NsObj oC mC) (em : mC (Str.ofString "number") = some (.int x tx)) :
    wpAny (model PW w) A (eval (.Subscript (.Constant (.str (Str.ofString "-pqr")) 0 e1) (.BinOp (.Name (Str.ofString "number") e2) .Mod (.Constant (.int 4) 0 e3) e4) e5) (compEnvC scope cle C env)) (fun y s' => ∃ t h' tk', y = .str ⟨#[lE o]⟩ t ∧ s' = { s with heap := h', toks := tk' } ∧ Fr h₀ L h' m ∧ News h₀ L h' ((I, oI) :: (C, oC) :: (D, lst ys) :: news)) E s := by
  have hn : (compEnvC scope cle C env).scope.kind = .function := by simp [compEnvC, relabel, hkind]
  refine Subscript_ (wpAny_Constant_str ?_)
  refine wpAny_BinOp (LCgL.ld_own (s := { s with toks := s.toks + 1 }) N (.tail _ (.head _)) ho em ?_ hn (lookup_relabel_local kx))
  refine wpAny_Constant_int (mod_int' (by decide) ?_)
  exact item_pqr ((fmod4 hx0).trans hx) fun t' k => ⟨t', _, _, rfl, rfl, F, N⟩
open Plain in
theorem firsts_rest {w : World} {A : Around} {h₀ : Heap} {L : Addr} {m : Str → Option Value} {s : Shared} {scope : Scope} {pos : Pos} {env : Env} {cle : List (Str × Addr)} {iter : PySem.Expr} {px e1 e2 e3 e4 e5 : Pos} {I C D ax : Addr} {its : Array Value} {news : List (Addr × Obj)} {T : Nat → Told} {n : Nat}
    (hi : IntsAre its.toList ((List.range n).map fun i => (num T (i + 1) : Int))) (hn : n ≤ 12) (hkind : scope.kind = .function) (kx : scope.names.lookup (Str.ofString "number") = some .local) (hID : @LT.lt Nat _ I D) (hDC : @LT.lt Nat _ D C) :
    ∀ (k i : Nat) (ys : List Value), i + k = n → StrsAre ys ((List.range i).map fun j => (⟨#[lE (fs T (j + 1))]⟩ : Str)) →
      XRest PW w A h₀ L m s I C D (bodyT (.Subscript (.Constant (.str (Str.ofString "-pqr")) 0 e1) (.BinOp (.Name (Str.ofString "number") e2) .Mod (.Constant (.int 4) 0 e3) e4) e5) (.Name (Str.ofString "number") px) iter scope pos cle env I C D) (.compLoop (.ListComp (.Subscript (.Constant (.str (Str.ofString "-pqr")) 0 e1) (.BinOp (.Name (Str.ofString "number") e2) .Mod (.Constant (.int 4) 0 e3) e4) e5) [⟨.Name (Str.ofString "number") px, iter, [], 0⟩] scope pos) 0 (.ref I) (.ref D) (compEnvC scope cle C env)) (fun nw => (ax, W.listOf its 0) ∈ nw) (fun i v => its[i]? = some v) (fun i h => h.IsListIter I ax i ∧ h.IsList ax its) (fun ys nw => nw = news ∧ StrsAre ys ((List.range n).map fun j => (⟨#[lE (fs T (j + 1))]⟩ : Str))) k i ys news
  | 0, i, ys, e, hy => by
    obtain rfl : i = n := by omega
    exact ⟨rfl, hy⟩
  | k + 1, i, ys, e, hy => by
    have hlt : i < n := by omega
    have hv : ∃ t, its[i]? = some (.int (num T (i + 1) : Int) t) := by
      rw [← Array.getElem?_toList]
      generalize its.toList = vs at hi
      have key : ∀ (zs : List Int) (vs : List Value) (i : Nat) (z : Int), IntsAre vs zs → zs[i]? = some z → ∃ t, vs[i]? = some (.int z t) := by
        intro zs vs i z h
        induction h generalizing i with
        | nil => intro q; simp at q
        | cons n t r ih =>
          cases i with
          | zero => intro q; obtain rfl := Option.some.inj q; exact ⟨t, rfl⟩
          | succ i => intro q; exact ih i q
      exact key _ _ i _ hi (by simp [hlt])
    obtain ⟨t, hv⟩ := hv
    have hl : ys.length ≤ 100 := by
      have := hy.length
      simp at this
      omega
    refine keep_turn (v := .int (num T (i + 1) : Int) t) (f := fun t => .str ⟨#[lE (fs T (i + 1))]⟩ t) hkind kx hID hDC hl (fun u hu => Option.some.inj (hu.symm.trans hv)) (fun oI oC mC h tk E F hoC em N off => first_elt (Int.natCast_nonneg _) (num_digits T (i + 1)).1 hkind kx F N hoC em) fun t' => firsts_rest hi hn hkind kx hID hDC k (i + 1) _ (by omega) ?_
    rw [List.range_succ, List.map_append]
    have ap : ∀ {vs ws : List Value} {ns ms : List Str}, StrsAre vs ns → StrsAre ws ms → StrsAre (vs ++ ws) (ns ++ ms) := by
      intro vs ws ns ms h h2
      induction h with
      | nil => exact h2
      | cons y t r ih => exact .cons y t ih
    exact ap hy (.cons _ _ .nil)
open Plain in
theorem firsts_comp {w : World} {A : Around} {h₀ : Heap} {L : Addr} {m : Str → Option Value} {s : Shared} {Q E : Value → Shared → Prop} {scope : Scope} {pos : Pos} {env : Env} {cle : List (Str × Addr)} {px e1 e2 e3 e4 e5 g1 g2 g3 g4 : Pos} {nu : Addr} {vs : List Value} {nn n : Nat} {T : Nat → Told} {news : List (Addr × Obj)}
    (hh : A.handled = none) (hi : IntsAre vs ((List.range (n + 1)).map fun k => (num T k : Int))) (hn : n ≤ 12) (hkind : scope.kind = .function) (kx : scope.names.lookup (Str.ofString "number") = some .local) (hclos : closureFor scope env = pure cle) (hcell : ∀ y ∈ scope.names, y.2 ≠ .cell) (hnames : ∀ y ∈ scope.names, y.2 = .local → scope.names.lookup y.1 = some .local) (F : Fr h₀ L s.heap m) (N : News h₀ L s.heap news) (hnu : (nu, W.listOf vs.toArray nn) ∈ news)
    (hev : wpAny (model PW w) A (eval (.Name (Str.ofString "numbers") g1) env) (fun v s' => v = .ref nu ∧ s' = s) E s)
    (hret : ∀ D ys h tk, StrsAre ys ((List.range n).map fun j => (⟨#[lE (fs T (j + 1))]⟩ : Str)) → Fr h₀ L h m → News h₀ L h ((D, lst ys) :: news) → Q (.ref D) { s with heap := h, toks := tk }) :
    wpAny (model PW w) A (eval (.ListComp (.Subscript (.Constant (.str (Str.ofString "-pqr")) 0 e1) (.BinOp (.Name (Str.ofString "number") e2) .Mod (.Constant (.int 4) 0 e3) e4) e5) [⟨.Name (Str.ofString "number") px, (.Subscript (.Name (Str.ofString "numbers") g1) (.Slice (some (.Constant (.int 1) 0 g2)) none none g3) g4), [], 0⟩] scope pos) env) Q E s := by
  have hsl : IntsAre (slicePick vs.toArray (some 1) none none).toList ((List.range n).map fun i => (num T (i + 1) : Int)) := by
    have := kmk_from hi (show (0 : Int) ≤ 1 by decide)
    have e : ((List.range (n + 1)).map fun k => (num T k : Int)).drop (1 : Int).toNat = (List.range n).map fun i => (num T (i + 1) : Int) := by
      rw [List.range_succ_eq_map]
      simp [Function.comp_def]
    rwa [e] at this
  have hsz : vs.toArray.size ≤ sizeLine := by
    have e := hi.length
    simp at e
    rw [List.size_toArray, e]
    exact Nat.le_trans (show n + 1 ≤ 13 by omega) (Nat.le_of_ble_eq_true rfl)
  have hq : (slicePick vs.toArray (some 1) none none).size = n := by
    have e := hsl.length
    simpa using e
  refine comp_listA (its := slicePick vs.toArray (some 1) none none) (n0 := 0) (h₀ := h₀) (L := L) (m := m) (news := news) (S := fun ax nw => (ax, W.listOf (slicePick vs.toArray (some 1) none none) 0) ∈ nw) (body := bodyT (.Subscript (.Constant (.str (Str.ofString "-pqr")) 0 e1) (.BinOp (.Name (Str.ofString "number") e2) .Mod (.Constant (.int 4) 0 e3) e4) e5) (.Name (Str.ofString "number") px) (.Subscript (.Name (Str.ofString "numbers") g1) (.Slice (some (.Constant (.int 1) 0 g2)) none none g3) g4) scope pos cle env)
    (Fin := fun ax D ys nw => nw = (ax, W.listOf (slicePick vs.toArray (some 1) none none) 0) :: news ∧ StrsAre ys ((List.range n).map fun j => (⟨#[lE (fs T (j + 1))]⟩ : Str)))
    (bodyT_eq _ _ _ scope pos cle env) hh hclos hcell hkind hnames (fun _ => .head _) (fun _ _ h => h) (fun ax I C D s' hax hI2 hID hDC _ _ _ => ?_) (fun ax D h tk ys nw F' N' off' _ hf => ?_) (by intro _; rfl) ?_
  · rw [hq]
    exact firsts_rest hsl hn hkind kx hID hDC n 0 [] (by omega) .nil
  · obtain ⟨rfl, hy⟩ := hf
    refine hret D ys h tk hy F' (cb_drop N' fun p hp => ?_)
    rcases List.mem_cons.mp hp with rfl | hp
    · exact .head _
    · exact .tail _ (.tail _ hp)
  · refine Subscript_ (wpAny_mono hev (fun v s' h => ?_) fun _ _ e => e)
    obtain ⟨rfl, rfl⟩ := h
    refine wpAny_Slice (evalPart_some_step (wpAny_Constant_int (evalPart_none_step (evalPart_none_step ?_))))
    exact kmk_slice (s := { s' with toks := s'.toks + 1 }) F N ⟨_, (N _ hnu).1, rfl, _, rfl⟩ (IsPart.int _ _) IsPart.none (fun D h' F' N' l1 => ⟨D, h', _, rfl, rfl, F', N', l1⟩) (by with_unfolding_all rfl) (by intro _; rfl) hsz
theorem join_ones {prog : Program} {w : World} {A : Around} {E : Value → Shared → Prop} {s : Shared} {h₀ : Heap} {L : Addr} {news : List (Addr × Obj)} {Q : Value → Shared → Prop} {D : Addr} {ys : List Value} {cs : List Nat} {t : Tok} (N : News h₀ L s.heap news) (hm : (D, lst ys) ∈ news) (hi : StrsAre ys (cs.map fun c => (⟨#[c]⟩ : Str))) (hl : cs.length ≤ 20)
    (h : ∀ t' k, Q (.str ⟨cs.toArray⟩ t') { s with toks := k }) : wpAny (model prog w) A (call (.builtin "str.join") [.str (Str.ofString "") t, .ref D]) Q E s := by
  refine join_listC (items := ys.toArray) (ys := cs.map fun c => (⟨#[c]⟩ : Str)) ⟨_, (N _ hm).1, rfl, _, rfl⟩ (by simpa using hi) (by decide) ?_ fun t' k => ?_
  · have e : (List.map (fun x => x.length) (cs.map fun c => (⟨#[c]⟩ : Str))).sum = cs.length := by
      clear hi hl h
      induction cs with
      | nil => rfl
      | cons c r ih => simp only [List.map_cons, List.sum_cons, ih, List.length_cons]; show 1 + r.length = r.length + 1; omega
    rw [e, List.length_map]; omega
  · rw [join_flat]
    have e : ((cs.map fun c => (⟨#[c]⟩ : Str)).flatMap fun y => y.cps.toList) = cs := by
      clear hi hl h
      induction cs with
      | nil => rfl
      | cons c r ih =>
        simp only [List.map_cons, List.flatMap_cons]
        rw [ih]
        rfl
    rw [e]; exact h t' k
end Mine
end

section
open PySem PySem.W PyProof.Rows PySem.Spec PySem.Calls PyProof.V
open PyProof.Rows.LCg (NsObj Off3 Off1 lst ns_obj fr_but news_but lst_snoc)
set_option Elab.async false
set_option maxRecDepth 100000
namespace Mine
theorem kwn_LP : True := by
  k_with_none
  trivial
theorem fillLP : RW = RW ∧ KF = KF := by
  k_fill
  exact ⟨rfl, rfl⟩
set_option maxHeartbeats 0
set_option rowWalk.seconds 0
theorem end_elt {w : World} {ln : Nat} {pg dx l : Addr} {hs : Int} {tt : Tok} {a0 a1 a2 a3 a4 a5 a6 a7 a8 : Addr} {t0 t1 t2 t3 t4 t5 t6 t7 t8 u0 u1 u2 u3 u4 u5 u6 u7 u8 : Tok} {g0 g1 g2 g3 g4 g5 g6 g7 g8 d0 d1 d2 d3 d4 d5 d6 d7 d8 : Int} {nu : Addr} {nus : Array Value} {nn : Nat} {q1 q2 : Array Value} {mean : ExcName → Option Value} {mg mb : Str → Option Value} {dp un : Nat} {gd : Option (List Code)} {cn : Str} {cs : Scope} {a : Addr} {ccd : Value} {cl : List (Str × Addr)} {outer : List Env} {A₀ : Around} {base h₀ : Heap} {L : Addr} {m : Str → Option Value}   {E : Value → Shared → Prop} {s : Shared} {sg : List (_root_.Fin 3)} {tT : Tok} {c3 c1 : Addr} {q3 q1r : Obj} {RC : List (Addr × Obj)} {n : Nat} {I C D : Addr} {oI oC : Obj} {ys : List Value} {mC : Str → Option Value} {env : Env} {scope : Scope} {cle : List (Str × Addr)} {e1 e2 e3 e4 e5 e6 e7 e8 e9 e10 e11 e12 : Pos} {mm : _root_.Fin 3} {tm : Tok}
    (hlen : sg.length = n + 1) (hn : sg.length ≤ 12) (HZ : ∀ mi, pick d0 d1 d2 d3 d4 d5 d6 d7 d8 mi (sg.getD 0 2) ≠ 0) (hkind : scope.kind = .function) (kx : scope.names.lookup (Str.ofString "mind") = some .local) (f1 : (compEnvC scope cle C env).kindOf (Str.ofString "page") = some .cell) (f2 : (compEnvC scope cle C env).kindOf (Str.ofString "tape") = some .cell) (f3 : (compEnvC scope cle C env).kindOf (Str.ofString "_law_walk") = some .globalImplicit) (f4 : (compEnvC scope cle C env).kindOf (Str.ofString "len") = some .globalImplicit) (hge : env.globals = mainGlobals) (hbi : env.builtins = builtinsNs) (lk1 : cle.lookup (Str.ofString "page") = some c3) (lk2 : cle.lookup (Str.ofString "tape") = some c1) (hc3 : (c3, q3) ∈ RC) (hc1 : (c1, q1r) ∈ RC) (dc3 : q3.data = .cell (some (.ref pg))) (dc1 : q1r.data = .cell (some (.str (tapeS sg) tT))) (hOff : ∀ p ∈ RC, ∀ q ∈ ([(pg, (⟨.ref 269, some dx, .plain, #[]⟩ : Obj)), (dx, dictOf [⟨hs, .str (Str.ofString "_headers") tt, .ref l⟩] 1), (l, W.listOf #[.ref a0, .ref a1, .ref a2, .ref a3, .ref a4, .ref a5, .ref a6, .ref a7, .ref a8] ln), (a0, ({ cls := .type "tuple", data := .seq [.str (Str.ofString "pf") t0, .str (PV g0 d0) u0].toArray } : Obj)), (a1, ({ cls := .type "tuple", data := .seq [.str (Str.ofString "pi") t1, .str (PV g1 d1) u1].toArray } : Obj)), (a2, ({ cls := .type "tuple", data := .seq [.str (Str.ofString "qf") t2, .str (PV g2 d2) u2].toArray } : Obj)), (a3, ({ cls := .type "tuple", data := .seq [.str (Str.ofString "qi") t3, .str (PV g3 d3) u3].toArray } : Obj)), (a4, ({ cls := .type "tuple", data := .seq [.str (Str.ofString "rf") t4, .str (PV g4 d4) u4].toArray } : Obj)), (a5, ({ cls := .type "tuple", data := .seq [.str (Str.ofString "ri") t5, .str (PV g5 d5) u5].toArray } : Obj)), (a6, ({ cls := .type "tuple", data := .seq [.str (Str.ofString "p.") t6, .str (PV g6 d6) u6].toArray } : Obj)), (a7, ({ cls := .type "tuple", data := .seq [.str (Str.ofString "q.") t7, .str (PV g7 d7) u7].toArray } : Obj)), (a8, ({ cls := .type "tuple", data := .seq [.str (Str.ofString "r.") t8, .str (PV g8 d8) u8].toArray } : Obj)), (nu, W.listOf nus nn), (104, tabObj q1), (111, tabObj q2)] : List (Addr × Obj)), q.1 ≠ p.1) (B : Below A₀ base outer h₀) (X : (KF w.params).In h₀) (T : Top topProg LN mean mg mb h₀) (hk : cs.kind = .function) (hd : dp + 8 < recursionLimit) (hu : un + 64 < cLine)
    (F : Fr h₀ L s.heap m) (N : News h₀ L s.heap ((I, oI) :: (C, oC) :: (D, lst ys) :: ([(pg, (⟨.ref 269, some dx, .plain, #[]⟩ : Obj)), (dx, dictOf [⟨hs, .str (Str.ofString "_headers") tt, .ref l⟩] 1), (l, W.listOf #[.ref a0, .ref a1, .ref a2, .ref a3, .ref a4, .ref a5, .ref a6, .ref a7, .ref a8] ln), (a0, ({ cls := .type "tuple", data := .seq [.str (Str.ofString "pf") t0, .str (PV g0 d0) u0].toArray } : Obj)), (a1, ({ cls := .type "tuple", data := .seq [.str (Str.ofString "pi") t1, .str (PV g1 d1) u1].toArray } : Obj)), (a2, ({ cls := .type "tuple", data := .seq [.str (Str.ofString "qf") t2, .str (PV g2 d2) u2].toArray } : Obj)), (a3, ({ cls := .type "tuple", data := .seq [.str (Str.ofString "qi") t3, .str (PV g3 d3) u3].toArray } : Obj)), (a4, ({ cls := .type "tuple", data := .seq [.str (Str.ofString "rf") t4, .str (PV g4 d4) u4].toArray } : Obj)), (a5, ({ cls := .type "tuple", data := .seq [.str (Str.ofString "ri") t5, .str (PV g5 d5) u5].toArray } : Obj)), (a6, ({ cls := .type "tuple", data := .seq [.str (Str.ofString "p.") t6, .str (PV g6 d6) u6].toArray } : Obj)), (a7, ({ cls := .type "tuple", data := .seq [.str (Str.ofString "q.") t7, .str (PV g7 d7) u7].toArray } : Obj)), (a8, ({ cls := .type "tuple", data := .seq [.str (Str.ofString "r.") t8, .str (PV g8 d8) u8].toArray } : Obj)), (nu, W.listOf nus nn), (104, tabObj q1), (111, tabObj q2)] ++ RC))) (off3 : Off3 I C D ([(pg, (⟨.ref 269, some dx, .plain, #[]⟩ : Obj)), (dx, dictOf [⟨hs, .str (Str.ofString "_headers") tt, .ref l⟩] 1), (l, W.listOf #[.ref a0, .ref a1, .ref a2, .ref a3, .ref a4, .ref a5, .ref a6, .ref a7, .ref a8] ln), (a0, ({ cls := .type "tuple", data := .seq [.str (Str.ofString "pf") t0, .str (PV g0 d0) u0].toArray } : Obj)), (a1, ({ cls := .type "tuple", data := .seq [.str (Str.ofString "pi") t1, .str (PV g1 d1) u1].toArray } : Obj)), (a2, ({ cls := .type "tuple", data := .seq [.str (Str.ofString "qf") t2, .str (PV g2 d2) u2].toArray } : Obj)), (a3, ({ cls := .type "tuple", data := .seq [.str (Str.ofString "qi") t3, .str (PV g3 d3) u3].toArray } : Obj)), (a4, ({ cls := .type "tuple", data := .seq [.str (Str.ofString "rf") t4, .str (PV g4 d4) u4].toArray } : Obj)), (a5, ({ cls := .type "tuple", data := .seq [.str (Str.ofString "ri") t5, .str (PV g5 d5) u5].toArray } : Obj)), (a6, ({ cls := .type "tuple", data := .seq [.str (Str.ofString "p.") t6, .str (PV g6 d6) u6].toArray } : Obj)), (a7, ({ cls := .type "tuple", data := .seq [.str (Str.ofString "q.") t7, .str (PV g7 d7) u7].toArray } : Obj)), (a8, ({ cls := .type "tuple", data := .seq [.str (Str.ofString "r.") t8, .str (PV g8 d8) u8].toArray } : Obj)), (nu, W.listOf nus nn), (104, tabObj q1), (111, tabObj q2)] ++ RC)) (ho : NsObj oC mC) (em : mC (Str.ofString "mind") = some (.str (mL mm) tm)) :
    wpAny (model PW w) (ktrTop dp un gd cn cs L a ccd cl outer) (eval (.Subscript (.Call (.Name (Str.ofString "_law_walk") e1) [.Name (Str.ofString "page") e2, .Name (Str.ofString "tape") e3, .Name (Str.ofString "mind") e4, .BinOp (.Call (.Name (Str.ofString "len") e5) [.Name (Str.ofString "tape") e6] [] e7) .Sub (.Constant (.int 1) 0 e8) e9] [] e10) (.Constant (.int 0) 0 e11) e12) (compEnvC scope cle C env)) (fun y s' => ∃ t h' tk', y = .str ⟨#[lE (Plain.kn (tabT (pick g0 g1 g2 g3 g4 g5 g6 g7 g8) (pick d0 d1 d2 d3 d4 d5 d6 d7 d8) sg) (n + 1) mm)]⟩ t ∧ s' = { s with heap := h', toks := tk' } ∧ Fr h₀ L h' m ∧ News h₀ L h' ((I, oI) :: (C, oC) :: (D, lst ys) :: ([(pg, (⟨.ref 269, some dx, .plain, #[]⟩ : Obj)), (dx, dictOf [⟨hs, .str (Str.ofString "_headers") tt, .ref l⟩] 1), (l, W.listOf #[.ref a0, .ref a1, .ref a2, .ref a3, .ref a4, .ref a5, .ref a6, .ref a7, .ref a8] ln), (a0, ({ cls := .type "tuple", data := .seq [.str (Str.ofString "pf") t0, .str (PV g0 d0) u0].toArray } : Obj)), (a1, ({ cls := .type "tuple", data := .seq [.str (Str.ofString "pi") t1, .str (PV g1 d1) u1].toArray } : Obj)), (a2, ({ cls := .type "tuple", data := .seq [.str (Str.ofString "qf") t2, .str (PV g2 d2) u2].toArray } : Obj)), (a3, ({ cls := .type "tuple", data := .seq [.str (Str.ofString "qi") t3, .str (PV g3 d3) u3].toArray } : Obj)), (a4, ({ cls := .type "tuple", data := .seq [.str (Str.ofString "rf") t4, .str (PV g4 d4) u4].toArray } : Obj)), (a5, ({ cls := .type "tuple", data := .seq [.str (Str.ofString "ri") t5, .str (PV g5 d5) u5].toArray } : Obj)), (a6, ({ cls := .type "tuple", data := .seq [.str (Str.ofString "p.") t6, .str (PV g6 d6) u6].toArray } : Obj)), (a7, ({ cls := .type "tuple", data := .seq [.str (Str.ofString "q.") t7, .str (PV g7 d7) u7].toArray } : Obj)), (a8, ({ cls := .type "tuple", data := .seq [.str (Str.ofString "r.") t8, .str (PV g8 d8) u8].toArray } : Obj)), (nu, W.listOf nus nn), (104, tabObj q1), (111, tabObj q2)] ++ RC))) E s := by
  have hnn : (compEnvC scope cle C env).scope.kind = .function := by simp [compEnvC, relabel, hkind]
  have inR : ∀ p ∈ RC, p ∈ (I, oI) :: (C, oC) :: (D, lst ys) :: ([(pg, (⟨.ref 269, some dx, .plain, #[]⟩ : Obj)), (dx, dictOf [⟨hs, .str (Str.ofString "_headers") tt, .ref l⟩] 1), (l, W.listOf #[.ref a0, .ref a1, .ref a2, .ref a3, .ref a4, .ref a5, .ref a6, .ref a7, .ref a8] ln), (a0, ({ cls := .type "tuple", data := .seq [.str (Str.ofString "pf") t0, .str (PV g0 d0) u0].toArray } : Obj)), (a1, ({ cls := .type "tuple", data := .seq [.str (Str.ofString "pi") t1, .str (PV g1 d1) u1].toArray } : Obj)), (a2, ({ cls := .type "tuple", data := .seq [.str (Str.ofString "qf") t2, .str (PV g2 d2) u2].toArray } : Obj)), (a3, ({ cls := .type "tuple", data := .seq [.str (Str.ofString "qi") t3, .str (PV g3 d3) u3].toArray } : Obj)), (a4, ({ cls := .type "tuple", data := .seq [.str (Str.ofString "rf") t4, .str (PV g4 d4) u4].toArray } : Obj)), (a5, ({ cls := .type "tuple", data := .seq [.str (Str.ofString "ri") t5, .str (PV g5 d5) u5].toArray } : Obj)), (a6, ({ cls := .type "tuple", data := .seq [.str (Str.ofString "p.") t6, .str (PV g6 d6) u6].toArray } : Obj)), (a7, ({ cls := .type "tuple", data := .seq [.str (Str.ofString "q.") t7, .str (PV g7 d7) u7].toArray } : Obj)), (a8, ({ cls := .type "tuple", data := .seq [.str (Str.ofString "r.") t8, .str (PV g8 d8) u8].toArray } : Obj)), (nu, W.listOf nus nn), (104, tabObj q1), (111, tabObj q2)] ++ RC) := fun p hp => .tail _ (.tail _ (.tail _ (List.mem_append_right _ hp)))
  have inO : ∀ p ∈ [(pg, (⟨.ref 269, some dx, .plain, #[]⟩ : Obj)), (dx, dictOf [⟨hs, .str (Str.ofString "_headers") tt, .ref l⟩] 1), (l, W.listOf #[.ref a0, .ref a1, .ref a2, .ref a3, .ref a4, .ref a5, .ref a6, .ref a7, .ref a8] ln), (a0, ({ cls := .type "tuple", data := .seq [.str (Str.ofString "pf") t0, .str (PV g0 d0) u0].toArray } : Obj)), (a1, ({ cls := .type "tuple", data := .seq [.str (Str.ofString "pi") t1, .str (PV g1 d1) u1].toArray } : Obj)), (a2, ({ cls := .type "tuple", data := .seq [.str (Str.ofString "qf") t2, .str (PV g2 d2) u2].toArray } : Obj)), (a3, ({ cls := .type "tuple", data := .seq [.str (Str.ofString "qi") t3, .str (PV g3 d3) u3].toArray } : Obj)), (a4, ({ cls := .type "tuple", data := .seq [.str (Str.ofString "rf") t4, .str (PV g4 d4) u4].toArray } : Obj)), (a5, ({ cls := .type "tuple", data := .seq [.str (Str.ofString "ri") t5, .str (PV g5 d5) u5].toArray } : Obj)), (a6, ({ cls := .type "tuple", data := .seq [.str (Str.ofString "p.") t6, .str (PV g6 d6) u6].toArray } : Obj)), (a7, ({ cls := .type "tuple", data := .seq [.str (Str.ofString "q.") t7, .str (PV g7 d7) u7].toArray } : Obj)), (a8, ({ cls := .type "tuple", data := .seq [.str (Str.ofString "r.") t8, .str (PV g8 d8) u8].toArray } : Obj)), (nu, W.listOf nus nn), (104, tabObj q1), (111, tabObj q2)], p ∈ (I, oI) :: (C, oC) :: (D, lst ys) :: ([(pg, (⟨.ref 269, some dx, .plain, #[]⟩ : Obj)), (dx, dictOf [⟨hs, .str (Str.ofString "_headers") tt, .ref l⟩] 1), (l, W.listOf #[.ref a0, .ref a1, .ref a2, .ref a3, .ref a4, .ref a5, .ref a6, .ref a7, .ref a8] ln), (a0, ({ cls := .type "tuple", data := .seq [.str (Str.ofString "pf") t0, .str (PV g0 d0) u0].toArray } : Obj)), (a1, ({ cls := .type "tuple", data := .seq [.str (Str.ofString "pi") t1, .str (PV g1 d1) u1].toArray } : Obj)), (a2, ({ cls := .type "tuple", data := .seq [.str (Str.ofString "qf") t2, .str (PV g2 d2) u2].toArray } : Obj)), (a3, ({ cls := .type "tuple", data := .seq [.str (Str.ofString "qi") t3, .str (PV g3 d3) u3].toArray } : Obj)), (a4, ({ cls := .type "tuple", data := .seq [.str (Str.ofString "rf") t4, .str (PV g4 d4) u4].toArray } : Obj)), (a5, ({ cls := .type "tuple", data := .seq [.str (Str.ofString "ri") t5, .str (PV g5 d5) u5].toArray } : Obj)), (a6, ({ cls := .type "tuple", data := .seq [.str (Str.ofString "p.") t6, .str (PV g6 d6) u6].toArray } : Obj)), (a7, ({ cls := .type "tuple", data := .seq [.str (Str.ofString "q.") t7, .str (PV g7 d7) u7].toArray } : Obj)), (a8, ({ cls := .type "tuple", data := .seq [.str (Str.ofString "r.") t8, .str (PV g8 d8) u8].toArray } : Obj)), (nu, W.listOf nus nn), (104, tabObj q1), (111, tabObj q2)] ++ RC) := fun p hp => .tail _ (.tail _ (.tail _ (List.mem_append_left _ hp)))
  have hg : nsIn (KF w.params) mainGlobals (Str.ofString "_law_walk") = some (some (.ref 306)) := by k_is
  have hgl : nsIn (KF w.params) mainGlobals (Str.ofString "len") = some none := by k_is
  have H0 : ∀ m, ((tabT (pick g0 g1 g2 g3 g4 g5 g6 g7 g8) (pick d0 d1 d2 d3 d4 d5 d6 d7 d8) sg) 0 m).2 = true := fun m => by
    show decide _ = true
    exact decide_eq_true (HZ m)
  refine Subscript_ (Call_ (LCgL.ld_global F X T hg ?_ hge hnn f3))
  refine callWith_K X (by k_is) ?_
  refine spliced_more (lcf_cell N lk1 (inR _ hc3) dc3 ?_ hnn f1)
  refine spliced_more (lcf_cell N lk2 (inR _ hc1) dc1 ?_ hnn f2)
  refine spliced_more (LCgL.ld_own N (.tail _ (.head _)) ho em ?_ hnn (lookup_relabel_local kx))
  refine spliced_more (wpAny_BinOp (Call_ (LCgL.ld_built F X T hgl (by boot_fast) (by decide) ?_ hge hbi hnn f4)))
  refine PyProof.Rows.callWith_builtin1 (spliced_more (lcf_cell N lk2 (inR _ hc1) dc1 ?_ hnn f2))
  refine spliced_none ?_
  refine len_str (by rw [tapeS_len]; omega) ?_
  refine wpAny_Constant_int (sub_int' ?_)
  have el : ((tapeS sg).length : Int) - 1 = (n : Int) := by rw [tapeS_len, hlen]; omega
  rw [el]
  refine spliced_none ⟨X.keeps F.keep, ?_⟩
  refine walk_okF (rest := (I, oI) :: (C, oC) :: (D, lst ys) :: RC) (m0 := mm) (i0 := n) hn (by omega) HZ B F X (cb_drop N inO) (cb_drop N fun p hp => ?_) (fun p hp q => ?_) T hk (by omega) (by omega) fun tp ua ub h' tk' F' N1 N2 l2 => ?_
  · rcases List.mem_cons.mp hp with rfl | hp
    · exact .head _
    rcases List.mem_cons.mp hp with rfl | hp
    · exact .tail _ (.head _)
    rcases List.mem_cons.mp hp with rfl | hp
    · exact .tail _ (.tail _ (.head _))
    · exact inR _ hp
  · obtain ⟨r, hr, e⟩ := List.mem_map.mp q
    have z := off3.mem r (List.mem_append_left _ hr)
    rcases List.mem_cons.mp hp with rfl | hp
    · exact z.1 e
    rcases List.mem_cons.mp hp with rfl | hp
    · exact z.2.1 e
    rcases List.mem_cons.mp hp with rfl | hp
    · exact z.2.2 e
    · exact hOff p hp r hr e
  · refine wpAny_Constant_int ?_
    have ht := (⟨_, (N1 _ (.head _)).1, rfl, _, rfl⟩ : IsTup h' tp _)
    refine tail_any (s := ⟨h', _, _, _, _⟩) (IsTup.typeIs (s := ⟨h', _, _, _, _⟩) ht) slot_tuple_getitem.lookup (getItem_tuple (s := ⟨h', _, _, _, _⟩) (j := 0) ht (by decide) (by decide) rfl rfl ?_) (by with_unfolding_all rfl)
    have e1 : (Plain.loopF (tabT (pick g0 g1 g2 g3 g4 g5 g6 g7 g8) (pick d0 d1 d2 d3 d4 d5 d6 d7 d8) sg) sg.length (3 * sg.length) (mm, n) []).1 = Plain.kn (tabT (pick g0 g1 g2 g3 g4 g5 g6 g7 g8) (pick d0 d1 d2 d3 d4 d5 d6 d7 d8) sg) (n + 1) mm := by
      rw [hlen]; exact end_eq H0 mm
    rw [e1, outS_lE]
    refine ⟨_, h', _, rfl, rfl, F', fun p hp => ?_⟩
    rcases List.mem_cons.mp hp with rfl | hp
    · exact N2 _ (.head _)
    rcases List.mem_cons.mp hp with rfl | hp
    · exact N2 _ (.tail _ (.head _))
    rcases List.mem_cons.mp hp with rfl | hp
    · exact N2 _ (.tail _ (.tail _ (.head _)))
    rcases List.mem_append.mp hp with hp | hp
    · exact N1 _ (.tail _ hp)
    · exact N2 _ (.tail _ (.tail _ (.tail _ hp)))
end Mine
end

section
open PySem PySem.W PyProof.Rows PySem.Spec PySem.Calls PyProof.V
open PyProof.Rows.LCg (NsObj Off3 Off1 lst ns_obj fr_but news_but lst_snoc)
set_option Elab.async false
set_option maxRecDepth 100000
namespace Mine
theorem kwn_LQ : True := by
  k_with_none
  trivial
theorem fillLQ : RW = RW ∧ KF = KF := by
  k_fill
  exact ⟨rfl, rfl⟩
set_option maxHeartbeats 0
set_option rowWalk.seconds 0
theorem keep_turnS {prog : Program} {w : World} {A : Around} {h₀ : Heap} {L : Addr} {m : Str → Option Value} {s : Shared} {env : Env} {scope : Scope} {cl : List (Str × Addr)} {pos px : Pos} {elt iter : PySem.Expr} {x : Str} {I C D : Addr} {k i : Nat} {ys : List Value} {news : List (Addr × Obj)} {g f : Tok → Value}
    {S : List (Addr × Obj) → Prop} {P : Nat → Value → Prop} {St : Nat → Heap → Prop} {Fin : List Value → List (Addr × Obj) → Prop}
    (hkind : scope.kind = .function) (kx : scope.names.lookup x = some .local) (hID : @LT.lt Nat _ I D) (hDC : @LT.lt Nat _ D C) (hys : ys.length ≤ 100) (hi : ∀ u, P i u → ∃ t, u = g t)
    (hE : ∀ v t oI oC mC h tk (E : Value → Shared → Prop), Fr h₀ L h m → NsObj oC mC → v = g t → mC x = some v → News h₀ L h ((I, oI) :: (C, oC) :: (D, lst ys) :: news) → Off3 I C D news →
      wpAny (model prog w) A (eval elt (compEnvC scope cl C env)) (fun y s' => ∃ t h' tk', y = f t ∧ s' = { s with heap := h', toks := tk' } ∧ Fr h₀ L h' m ∧ News h₀ L h' ((I, oI) :: (C, oC) :: (D, lst ys) :: news)) E { s with heap := h, toks := tk })
    (next : ∀ t, XRest prog w A h₀ L m s I C D (bodyT elt (.Name x px) iter scope pos cl env I C D) (.compLoop (.ListComp elt [⟨.Name x px, iter, [], 0⟩] scope pos) 0 (.ref I) (.ref D) (compEnvC scope cl C env)) S P St Fin k (i + 1) (ys ++ [f t]) news) :
    XRest prog w A h₀ L m s I C D (bodyT elt (.Name x px) iter scope pos cl env I C D) (.compLoop (.ListComp elt [⟨.Name x px, iter, [], 0⟩] scope pos) 0 (.ref I) (.ref D) (compEnvC scope cl C env)) S P St Fin (k + 1) i ys news := by
  intro u oI oC m₂ h tk E' hP ho F N off hS hst
  obtain ⟨t9, hv⟩ := hi u hP
  have hIC : I ≠ C := Nat.ne_of_lt (Nat.lt_trans hID hDC)
  have hn : (compEnvC scope cl C env).scope.kind = .function := by simp [compEnvC, relabel, hkind]
  unfold bodyT
  refine wpAny_bind (wpAny_of_eq (show letOwnedTupleGo (.Name x px) (.ref I) u = pure () from rfl) ?_)
  have x0 : XAt h₀ L m I oI C D ys news m₂ h := ⟨oC, F, ho, N⟩
  refine wpAny_bind (put_name (env := compEnvC scope cl C env) (lookup_relabel_local kx) hn x0.ns fun h2 tk2 n2 kp2 => ?_)
  obtain ⟨oC2, F2, ho2, N2⟩ := x0.store n2 kp2 hIC (Nat.ne_of_lt hDC) off
  refine wpAny_bind (wpAny_bind (wpAny_mono (hE u t9 oI oC2 _ h2 tk2 _ F2 ho2 hv (by simp [upd]) N2 off) (fun y s3 h3 => ?_) fun _ _ e => e))
  obtain ⟨t, h3, tk3, rfl, rfl, F3, N3⟩ := h3
  have x3 : XAt h₀ L m I oI C D ys news _ h3 := ⟨oC2, F3, ho2, N3⟩
  refine wpAny_bind (push_item (by have z : (100 : Nat) ≤ sizeLine := by decide
                                   exact Nat.le_trans hys z) x3 off (Nat.ne_of_lt hID) (Ne.symm (Nat.ne_of_lt hDC)) fun v4 h4 x4 => ?_)
  obtain ⟨oC4, F4, ho4, N4⟩ := x4
  exact wpAny_pure (wpAny_pure ⟨rfl, _, _, oC4, _, _, _, rfl, F4, ho4, N4, off, hS, next t⟩)
theorem ends_comp {w : World} {ln : Nat} {pg dx l : Addr} {hs : Int} {tt : Tok} {a0 a1 a2 a3 a4 a5 a6 a7 a8 : Addr} {t0 t1 t2 t3 t4 t5 t6 t7 t8 u0 u1 u2 u3 u4 u5 u6 u7 u8 : Tok} {g0 g1 g2 g3 g4 g5 g6 g7 g8 d0 d1 d2 d3 d4 d5 d6 d7 d8 : Int} {nu : Addr} {nus : Array Value} {nn : Nat} {q1 q2 : Array Value} {mean : ExcName → Option Value} {mg mb : Str → Option Value} {dp un : Nat} {gd : Option (List Code)} {cn : Str} {cs : Scope} {a : Addr} {ccd : Value} {cl : List (Str × Addr)} {outer : List Env} {A₀ : Around} {base h₀ : Heap} {L : Addr} {m : Str → Option Value} {s : Shared} {Q E : Value → Shared → Prop}   {sg : List (_root_.Fin 3)} {tT : Tok} {c3 c1 : Addr} {q3 q1r : Obj} {RC : List (Addr × Obj)} {n : Nat} {scope : Scope} {pos : Pos} {env : Env} {cle : List (Str × Addr)} {px gq : Pos} {e1 e2 e3 e4 e5 e6 e7 e8 e9 e10 e11 e12 : Pos}
    (hlen : sg.length = n + 1) (hn : sg.length ≤ 12) (HZ : ∀ mi, pick d0 d1 d2 d3 d4 d5 d6 d7 d8 mi (sg.getD 0 2) ≠ 0) (hkind : scope.kind = .function) (kx : scope.names.lookup (Str.ofString "mind") = some .local) (f1 : ∀ C, (compEnvC scope cle C env).kindOf (Str.ofString "page") = some .cell) (f2 : ∀ C, (compEnvC scope cle C env).kindOf (Str.ofString "tape") = some .cell) (f3 : ∀ C, (compEnvC scope cle C env).kindOf (Str.ofString "_law_walk") = some .globalImplicit) (f4 : ∀ C, (compEnvC scope cle C env).kindOf (Str.ofString "len") = some .globalImplicit) (hge : env.globals = mainGlobals) (hbi : env.builtins = builtinsNs) (lk1 : cle.lookup (Str.ofString "page") = some c3) (lk2 : cle.lookup (Str.ofString "tape") = some c1) (hclos : closureFor scope env = pure cle) (hcell : ∀ y ∈ scope.names, y.2 ≠ .cell) (hnames : ∀ y ∈ scope.names, y.2 = .local → scope.names.lookup y.1 = some .local) (hc3 : (c3, q3) ∈ RC) (hc1 : (c1, q1r) ∈ RC) (dc3 : q3.data = .cell (some (.ref pg))) (dc1 : q1r.data = .cell (some (.str (tapeS sg) tT))) (hOff : ∀ p ∈ RC, ∀ q ∈ ([(pg, (⟨.ref 269, some dx, .plain, #[]⟩ : Obj)), (dx, dictOf [⟨hs, .str (Str.ofString "_headers") tt, .ref l⟩] 1), (l, W.listOf #[.ref a0, .ref a1, .ref a2, .ref a3, .ref a4, .ref a5, .ref a6, .ref a7, .ref a8] ln), (a0, ({ cls := .type "tuple", data := .seq [.str (Str.ofString "pf") t0, .str (PV g0 d0) u0].toArray } : Obj)), (a1, ({ cls := .type "tuple", data := .seq [.str (Str.ofString "pi") t1, .str (PV g1 d1) u1].toArray } : Obj)), (a2, ({ cls := .type "tuple", data := .seq [.str (Str.ofString "qf") t2, .str (PV g2 d2) u2].toArray } : Obj)), (a3, ({ cls := .type "tuple", data := .seq [.str (Str.ofString "qi") t3, .str (PV g3 d3) u3].toArray } : Obj)), (a4, ({ cls := .type "tuple", data := .seq [.str (Str.ofString "rf") t4, .str (PV g4 d4) u4].toArray } : Obj)), (a5, ({ cls := .type "tuple", data := .seq [.str (Str.ofString "ri") t5, .str (PV g5 d5) u5].toArray } : Obj)), (a6, ({ cls := .type "tuple", data := .seq [.str (Str.ofString "p.") t6, .str (PV g6 d6) u6].toArray } : Obj)), (a7, ({ cls := .type "tuple", data := .seq [.str (Str.ofString "q.") t7, .str (PV g7 d7) u7].toArray } : Obj)), (a8, ({ cls := .type "tuple", data := .seq [.str (Str.ofString "r.") t8, .str (PV g8 d8) u8].toArray } : Obj)), (nu, W.listOf nus nn), (104, tabObj q1), (111, tabObj q2)] : List (Addr × Obj)), q.1 ≠ p.1) (B : Below A₀ base outer h₀) (X : (KF w.params).In h₀) (T : Top topProg LN mean mg mb h₀) (hk : cs.kind = .function) (hd : dp + 8 < recursionLimit) (hu : un + 64 < cLine) (F : Fr h₀ L s.heap m) (N : News h₀ L s.heap ([(pg, (⟨.ref 269, some dx, .plain, #[]⟩ : Obj)), (dx, dictOf [⟨hs, .str (Str.ofString "_headers") tt, .ref l⟩] 1), (l, W.listOf #[.ref a0, .ref a1, .ref a2, .ref a3, .ref a4, .ref a5, .ref a6, .ref a7, .ref a8] ln), (a0, ({ cls := .type "tuple", data := .seq [.str (Str.ofString "pf") t0, .str (PV g0 d0) u0].toArray } : Obj)), (a1, ({ cls := .type "tuple", data := .seq [.str (Str.ofString "pi") t1, .str (PV g1 d1) u1].toArray } : Obj)), (a2, ({ cls := .type "tuple", data := .seq [.str (Str.ofString "qf") t2, .str (PV g2 d2) u2].toArray } : Obj)), (a3, ({ cls := .type "tuple", data := .seq [.str (Str.ofString "qi") t3, .str (PV g3 d3) u3].toArray } : Obj)), (a4, ({ cls := .type "tuple", data := .seq [.str (Str.ofString "rf") t4, .str (PV g4 d4) u4].toArray } : Obj)), (a5, ({ cls := .type "tuple", data := .seq [.str (Str.ofString "ri") t5, .str (PV g5 d5) u5].toArray } : Obj)), (a6, ({ cls := .type "tuple", data := .seq [.str (Str.ofString "p.") t6, .str (PV g6 d6) u6].toArray } : Obj)), (a7, ({ cls := .type "tuple", data := .seq [.str (Str.ofString "q.") t7, .str (PV g7 d7) u7].toArray } : Obj)), (a8, ({ cls := .type "tuple", data := .seq [.str (Str.ofString "r.") t8, .str (PV g8 d8) u8].toArray } : Obj)), (nu, W.listOf nus nn), (104, tabObj q1), (111, tabObj q2)] ++ RC))
    (hret : ∀ D v90 v91 v92 h tk, Fr h₀ L h m → News h₀ L h ((D, lst [.str ⟨#[lE (Plain.kn (tabT (pick g0 g1 g2 g3 g4 g5 g6 g7 g8) (pick d0 d1 d2 d3 d4 d5 d6 d7 d8) sg) (n + 1) 0)]⟩ v90, .str ⟨#[lE (Plain.kn (tabT (pick g0 g1 g2 g3 g4 g5 g6 g7 g8) (pick d0 d1 d2 d3 d4 d5 d6 d7 d8) sg) (n + 1) 1)]⟩ v91, .str ⟨#[lE (Plain.kn (tabT (pick g0 g1 g2 g3 g4 g5 g6 g7 g8) (pick d0 d1 d2 d3 d4 d5 d6 d7 d8) sg) (n + 1) 2)]⟩ v92]) :: ([(pg, (⟨.ref 269, some dx, .plain, #[]⟩ : Obj)), (dx, dictOf [⟨hs, .str (Str.ofString "_headers") tt, .ref l⟩] 1), (l, W.listOf #[.ref a0, .ref a1, .ref a2, .ref a3, .ref a4, .ref a5, .ref a6, .ref a7, .ref a8] ln), (a0, ({ cls := .type "tuple", data := .seq [.str (Str.ofString "pf") t0, .str (PV g0 d0) u0].toArray } : Obj)), (a1, ({ cls := .type "tuple", data := .seq [.str (Str.ofString "pi") t1, .str (PV g1 d1) u1].toArray } : Obj)), (a2, ({ cls := .type "tuple", data := .seq [.str (Str.ofString "qf") t2, .str (PV g2 d2) u2].toArray } : Obj)), (a3, ({ cls := .type "tuple", data := .seq [.str (Str.ofString "qi") t3, .str (PV g3 d3) u3].toArray } : Obj)), (a4, ({ cls := .type "tuple", data := .seq [.str (Str.ofString "rf") t4, .str (PV g4 d4) u4].toArray } : Obj)), (a5, ({ cls := .type "tuple", data := .seq [.str (Str.ofString "ri") t5, .str (PV g5 d5) u5].toArray } : Obj)), (a6, ({ cls := .type "tuple", data := .seq [.str (Str.ofString "p.") t6, .str (PV g6 d6) u6].toArray } : Obj)), (a7, ({ cls := .type "tuple", data := .seq [.str (Str.ofString "q.") t7, .str (PV g7 d7) u7].toArray } : Obj)), (a8, ({ cls := .type "tuple", data := .seq [.str (Str.ofString "r.") t8, .str (PV g8 d8) u8].toArray } : Obj)), (nu, W.listOf nus nn), (104, tabObj q1), (111, tabObj q2)] ++ RC)) → Q (.ref D) { s with heap := h, toks := tk }) :
    wpAny (model PW w) (ktrTop dp un gd cn cs L a ccd cl outer) (eval (.ListComp (.Subscript (.Call (.Name (Str.ofString "_law_walk") e1) [.Name (Str.ofString "page") e2, .Name (Str.ofString "tape") e3, .Name (Str.ofString "mind") e4, .BinOp (.Call (.Name (Str.ofString "len") e5) [.Name (Str.ofString "tape") e6] [] e7) .Sub (.Constant (.int 1) 0 e8) e9] [] e10) (.Constant (.int 0) 0 e11) e12) [⟨.Name (Str.ofString "mind") px, (.Constant (.str (Str.ofString "pqr")) 0 gq), [], 0⟩] scope pos) env) Q E s := by
  have pq : ∀ i : _root_.Fin 3, ∀ u, SignAt (Str.ofString "pqr") i.val u → ∃ t, u = .str (mL i) t := by
    rintro i u ⟨c, t, hc, rfl⟩
    refine ⟨t, ?_⟩
    have e : (Str.ofString "pqr").cps = #[112, 113, 114] := by decide +kernel
    rw [e] at hc
    rw [mL_eq]
    rcases fin3 i with rfl | rfl | rfl
    · obtain rfl : (112 : Nat) = c := Option.some.inj hc; rfl
    · obtain rfl : (113 : Nat) = c := Option.some.inj hc; rfl
    · obtain rfl : (114 : Nat) = c := Option.some.inj hc; rfl
  refine comp_strA (h₀ := h₀) (L := L) (m := m) (x0 := Str.ofString "pqr") (t0 := s.toks) (news := [(pg, (⟨.ref 269, some dx, .plain, #[]⟩ : Obj)), (dx, dictOf [⟨hs, .str (Str.ofString "_headers") tt, .ref l⟩] 1), (l, W.listOf #[.ref a0, .ref a1, .ref a2, .ref a3, .ref a4, .ref a5, .ref a6, .ref a7, .ref a8] ln), (a0, ({ cls := .type "tuple", data := .seq [.str (Str.ofString "pf") t0, .str (PV g0 d0) u0].toArray } : Obj)), (a1, ({ cls := .type "tuple", data := .seq [.str (Str.ofString "pi") t1, .str (PV g1 d1) u1].toArray } : Obj)), (a2, ({ cls := .type "tuple", data := .seq [.str (Str.ofString "qf") t2, .str (PV g2 d2) u2].toArray } : Obj)), (a3, ({ cls := .type "tuple", data := .seq [.str (Str.ofString "qi") t3, .str (PV g3 d3) u3].toArray } : Obj)), (a4, ({ cls := .type "tuple", data := .seq [.str (Str.ofString "rf") t4, .str (PV g4 d4) u4].toArray } : Obj)), (a5, ({ cls := .type "tuple", data := .seq [.str (Str.ofString "ri") t5, .str (PV g5 d5) u5].toArray } : Obj)), (a6, ({ cls := .type "tuple", data := .seq [.str (Str.ofString "p.") t6, .str (PV g6 d6) u6].toArray } : Obj)), (a7, ({ cls := .type "tuple", data := .seq [.str (Str.ofString "q.") t7, .str (PV g7 d7) u7].toArray } : Obj)), (a8, ({ cls := .type "tuple", data := .seq [.str (Str.ofString "r.") t8, .str (PV g8 d8) u8].toArray } : Obj)), (nu, W.listOf nus nn), (104, tabObj q1), (111, tabObj q2)] ++ RC) (body := bodyT (.Subscript (.Call (.Name (Str.ofString "_law_walk") e1) [.Name (Str.ofString "page") e2, .Name (Str.ofString "tape") e3, .Name (Str.ofString "mind") e4, .BinOp (.Call (.Name (Str.ofString "len") e5) [.Name (Str.ofString "tape") e6] [] e7) .Sub (.Constant (.int 1) 0 e8) e9] [] e10) (.Constant (.int 0) 0 e11) e12) (.Name (Str.ofString "mind") px) (.Constant (.str (Str.ofString "pqr")) 0 gq) scope pos cle env)
    (Fin := fun D ys nw => nw = [(pg, (⟨.ref 269, some dx, .plain, #[]⟩ : Obj)), (dx, dictOf [⟨hs, .str (Str.ofString "_headers") tt, .ref l⟩] 1), (l, W.listOf #[.ref a0, .ref a1, .ref a2, .ref a3, .ref a4, .ref a5, .ref a6, .ref a7, .ref a8] ln), (a0, ({ cls := .type "tuple", data := .seq [.str (Str.ofString "pf") t0, .str (PV g0 d0) u0].toArray } : Obj)), (a1, ({ cls := .type "tuple", data := .seq [.str (Str.ofString "pi") t1, .str (PV g1 d1) u1].toArray } : Obj)), (a2, ({ cls := .type "tuple", data := .seq [.str (Str.ofString "qf") t2, .str (PV g2 d2) u2].toArray } : Obj)), (a3, ({ cls := .type "tuple", data := .seq [.str (Str.ofString "qi") t3, .str (PV g3 d3) u3].toArray } : Obj)), (a4, ({ cls := .type "tuple", data := .seq [.str (Str.ofString "rf") t4, .str (PV g4 d4) u4].toArray } : Obj)), (a5, ({ cls := .type "tuple", data := .seq [.str (Str.ofString "ri") t5, .str (PV g5 d5) u5].toArray } : Obj)), (a6, ({ cls := .type "tuple", data := .seq [.str (Str.ofString "p.") t6, .str (PV g6 d6) u6].toArray } : Obj)), (a7, ({ cls := .type "tuple", data := .seq [.str (Str.ofString "q.") t7, .str (PV g7 d7) u7].toArray } : Obj)), (a8, ({ cls := .type "tuple", data := .seq [.str (Str.ofString "r.") t8, .str (PV g8 d8) u8].toArray } : Obj)), (nu, W.listOf nus nn), (104, tabObj q1), (111, tabObj q2)] ++ RC ∧ ∃ v90 v91 v92, ys = [.str ⟨#[lE (Plain.kn (tabT (pick g0 g1 g2 g3 g4 g5 g6 g7 g8) (pick d0 d1 d2 d3 d4 d5 d6 d7 d8) sg) (n + 1) 0)]⟩ v90, .str ⟨#[lE (Plain.kn (tabT (pick g0 g1 g2 g3 g4 g5 g6 g7 g8) (pick d0 d1 d2 d3 d4 d5 d6 d7 d8) sg) (n + 1) 1)]⟩ v91, .str ⟨#[lE (Plain.kn (tabT (pick g0 g1 g2 g3 g4 g5 g6 g7 g8) (pick d0 d1 d2 d3 d4 d5 d6 d7 d8) sg) (n + 1) 2)]⟩ v92])
    (bodyT_eq _ _ _ scope pos cle env) rfl hclos hcell hkind hnames F N (fun I C D s' ty hI hID hDC e1 e2 e3 => ?_) (fun D h tk ys nw F' N' off' hf => ?_) (by intro _; rfl) (wpAny_Constant_str ⟨_, rfl, rfl⟩)
  · exact keep_turnS (k := 2) (i := 0) (g := fun t => .str (mL 0) t) (f := fun t => .str ⟨#[lE (Plain.kn (tabT (pick g0 g1 g2 g3 g4 g5 g6 g7 g8) (pick d0 d1 d2 d3 d4 d5 d6 d7 d8) sg) (n + 1) 0)]⟩ t) hkind kx hID hDC (by show (0 : Nat) ≤ 100; decide) (fun u hu => pq 0 u hu) (fun v t oI oC mC h tk E F hoC hv em N off => end_elt (m := m) (s := { s' with heap := h, toks := tk }) hlen hn HZ hkind kx (f1 C) (f2 C) (f3 C) (f4 C) hge hbi lk1 lk2 hc3 hc1 dc3 dc1 hOff B X T hk hd hu F N off hoC (em.trans (congrArg some hv))) fun v90 => keep_turnS (k := 1) (i := 1) (g := fun t => .str (mL 1) t) (f := fun t => .str ⟨#[lE (Plain.kn (tabT (pick g0 g1 g2 g3 g4 g5 g6 g7 g8) (pick d0 d1 d2 d3 d4 d5 d6 d7 d8) sg) (n + 1) 1)]⟩ t) hkind kx hID hDC (by show (1 : Nat) ≤ 100; decide) (fun u hu => pq 1 u hu) (fun v t oI oC mC h tk E F hoC hv em N off => end_elt (m := m) (s := { s' with heap := h, toks := tk }) hlen hn HZ hkind kx (f1 C) (f2 C) (f3 C) (f4 C) hge hbi lk1 lk2 hc3 hc1 dc3 dc1 hOff B X T hk hd hu F N off hoC (em.trans (congrArg some hv))) fun v91 => keep_turnS (k := 0) (i := 2) (g := fun t => .str (mL 2) t) (f := fun t => .str ⟨#[lE (Plain.kn (tabT (pick g0 g1 g2 g3 g4 g5 g6 g7 g8) (pick d0 d1 d2 d3 d4 d5 d6 d7 d8) sg) (n + 1) 2)]⟩ t) hkind kx hID hDC (by show (2 : Nat) ≤ 100; decide) (fun u hu => pq 2 u hu) (fun v t oI oC mC h tk E F hoC hv em N off => end_elt (m := m) (s := { s' with heap := h, toks := tk }) hlen hn HZ hkind kx (f1 C) (f2 C) (f3 C) (f4 C) hge hbi lk1 lk2 hc3 hc1 dc3 dc1 hOff B X T hk hd hu F N off hoC (em.trans (congrArg some hv))) fun v92 => ⟨rfl, v90, v91, v92, rfl⟩
  · obtain ⟨rfl, v90, v91, v92, rfl⟩ := hf
    exact hret D v90 v91 v92 h tk F' N'
end Mine
end

section
open PySem PySem.W PyProof.Rows PySem.Spec PySem.Calls PyProof.V
open PyProof.Rows.LCg (NsObj Off3 Off1 lst ns_obj fr_but news_but lst_snoc)
set_option Elab.async false
set_option maxRecDepth 100000
namespace Mine
theorem kwn_LS : True := by
  k_with_none
  trivial
theorem fillLS : RW = RW ∧ KF = KF := by
  k_fill
  exact ⟨rfl, rfl⟩
set_option maxHeartbeats 0
set_option rowWalk.seconds 0
open Plain in
theorem dig_elt {w : World} {A : Around} {E : Value → Shared → Prop} {s : Shared} {h₀ : Heap} {L : Addr} {m : Str → Option Value} {I C D c2 nu : Addr} {oI oC q2 : Obj} {ys : List Value} {news : List (Addr × Obj)} {mC : Str → Option Value} {env : Env} {scope : Scope} {cle : List (Str × Addr)} {e1 e2 e3 e4 e5 e6 e7 e8 e9 e10 e11 e12 : Pos} {z k p : Int} {tk9 : Tok} {o : Option (_root_.Fin 3)} {vs : List Value} {nn : Nat} {ks : List Int}
    (hi : IntsAre vs (ks ++ [z])) (hl : ks.length < 1000) (hz0 : 0 ≤ z) (hk0 : 0 ≤ k) (hk1 : k ≤ 1000000) (hp : (4 : Int) ^ k.toNat = p) (hp0 : 0 < p) (hp1 : p < 100) (hx : z / p % 4 = (enc o : Int)) (hkind : scope.kind = .function) (kx : scope.names.lookup (Str.ofString "k") = some .local) (f1 : (compEnvC scope cle C env).kindOf (Str.ofString "numbers") = some .cell) (lk1 : cle.lookup (Str.ofString "numbers") = some c2)
    (F : Fr h₀ L s.heap m) (N : News h₀ L s.heap ((I, oI) :: (C, oC) :: (D, lst ys) :: news)) (hc2 : (c2, q2) ∈ (I, oI) :: (C, oC) :: (D, lst ys) :: news) (dc2 : q2.data = .cell (some (.ref nu))) (hnu : (nu, W.listOf vs.toArray nn) ∈ (I, oI) :: (C, oC) :: (D, lst ys) :: news) (ho : NsObj oC mC) (em : mC (Str.ofString "k") = some (.int k tk9)) :
    wpAny (model PW w) A (eval (.Subscript (.Constant (.str (Str.ofString "-pqr")) 0 e1) (.BinOp (.BinOp (.Subscript (.Name (Str.ofString "numbers") e2) (.UnaryOp .USub (.Constant (.int 1) 0 e3) e4) e5) .FloorDiv (.BinOp (.Constant (.int 4) 0 e6) .Pow (.Name (Str.ofString "k") e7) e8) e9) .Mod (.Constant (.int 4) 0 e10) e11) e12) (compEnvC scope cle C env)) (fun y s' => ∃ t h' tk', y = .str ⟨#[lE o]⟩ t ∧ s' = { s with heap := h', toks := tk' } ∧ Fr h₀ L h' m ∧ News h₀ L h' ((I, oI) :: (C, oC) :: (D, lst ys) :: news)) E s := by
  have hn : (compEnvC scope cle C env).scope.kind = .function := by simp [compEnvC, relabel, hkind]
  refine Subscript_ (wpAny_Constant_str ?_)
  refine wpAny_BinOp (wpAny_BinOp (Subscript_ (lcf_cell (s := { s with toks := s.toks + 1 }) N lk1 hc2 dc2 ?_ hn f1)))
  refine wpAny_UnaryOp (wpAny_Constant_int (neg_int ?_))
  refine num_last (n := 0) (s := { s with toks := _ }) ⟨_, (N _ hnu).1, rfl, _, rfl⟩ hi hl (fun t => ?_) (by with_unfolding_all rfl)
  refine wpAny_BinOp (wpAny_Constant_int (LCgL.ld_own (s := { s with toks := _ }) N (.tail _ (.head _)) ho em ?_ hn (lookup_relabel_local kx)))
  refine pow_int_small hk0 hk1 (by decide) ?_
  rw [hp]
  refine floordiv_int (by omega) ?_ (Or.inl (PyProof.noPylong_small (by omega)))
  rw [Int.fdiv_eq_ediv_of_nonneg _ (by omega)]
  refine wpAny_Constant_int (mod_int' (by decide) ?_)
  exact item_pqr ((fmod4 (Int.ediv_nonneg hz0 (by omega))).trans hx) fun t' k => ⟨t', _, _, rfl, rfl, F, N⟩
open Plain in
theorem digs_comp {w : World} {A : Around} {h₀ : Heap} {L : Addr} {m : Str → Option Value} {s : Shared} {Q E : Value → Shared → Prop} {scope : Scope} {pos : Pos} {env : Env} {cle : List (Str × Addr)} {e1 e2 e3 e4 e5 e6 e7 e8 e9 e10 e11 e12 : Pos} {px g1 g2 g3 g4 : Pos} {nu c2 : Addr} {q2 : Obj} {vs : List Value} {nn : Nat} {ks : List Int} {z : Int} {o0 o1 o2 : Option (_root_.Fin 3)} {news : List (Addr × Obj)}
    (hh : A.handled = none) (hi : IntsAre vs (ks ++ [z])) (hl : ks.length < 1000) (hz0 : 0 ≤ z) (x0 : z / 4 % 4 = (enc o0 : Int)) (x1 : z / 16 % 4 = (enc o1 : Int)) (x2 : z / 64 % 4 = (enc o2 : Int)) (hkind : scope.kind = .function) (kx : scope.names.lookup (Str.ofString "k") = some .local) (f1 : ∀ C, (compEnvC scope cle C env).kindOf (Str.ofString "numbers") = some .cell) (lk1 : cle.lookup (Str.ofString "numbers") = some c2) (hclos : closureFor scope env = pure cle) (hcell : ∀ y ∈ scope.names, y.2 ≠ .cell) (hnames : ∀ y ∈ scope.names, y.2 = .local → scope.names.lookup y.1 = some .local) (F : Fr h₀ L s.heap m) (N : News h₀ L s.heap news) (hc2 : (c2, q2) ∈ news) (dc2 : q2.data = .cell (some (.ref nu))) (hnu : (nu, W.listOf vs.toArray nn) ∈ news)
    (hret : ∀ D v90 v91 v92 h tk, Fr h₀ L h m → News h₀ L h ((D, lst [.str ⟨#[lE o0]⟩ v90, .str ⟨#[lE o1]⟩ v91, .str ⟨#[lE o2]⟩ v92]) :: news) → Q (.ref D) { s with heap := h, toks := tk }) :
    wpAny (model PW w) A (eval (.ListComp (.Subscript (.Constant (.str (Str.ofString "-pqr")) 0 e1) (.BinOp (.BinOp (.Subscript (.Name (Str.ofString "numbers") e2) (.UnaryOp .USub (.Constant (.int 1) 0 e3) e4) e5) .FloorDiv (.BinOp (.Constant (.int 4) 0 e6) .Pow (.Name (Str.ofString "k") e7) e8) e9) .Mod (.Constant (.int 4) 0 e10) e11) e12) [⟨.Name (Str.ofString "k") px, (.Tuple [.Constant (.int 1) 0 g1, .Constant (.int 2) 0 g2, .Constant (.int 3) 0 g3] 0 g4), [], 0⟩] scope pos) env) Q E s := by
  refine comp_tup (h₀ := h₀) (L := L) (m := m) (its := #[.int 1 s.toks, .int 2 (s.toks + 1), .int 3 (s.toks + 1 + 1)]) (news := news) (S := fun ax nw => (ax, tupA #[.int 1 s.toks, .int 2 (s.toks + 1), .int 3 (s.toks + 1 + 1)]) ∈ nw) (body := bodyT (.Subscript (.Constant (.str (Str.ofString "-pqr")) 0 e1) (.BinOp (.BinOp (.Subscript (.Name (Str.ofString "numbers") e2) (.UnaryOp .USub (.Constant (.int 1) 0 e3) e4) e5) .FloorDiv (.BinOp (.Constant (.int 4) 0 e6) .Pow (.Name (Str.ofString "k") e7) e8) e9) .Mod (.Constant (.int 4) 0 e10) e11) e12) (.Name (Str.ofString "k") px) (.Tuple [.Constant (.int 1) 0 g1, .Constant (.int 2) 0 g2, .Constant (.int 3) 0 g3] 0 g4) scope pos cle env)
    (Fin := fun ax D ys nw => ∃ v90 v91 v92 : Tok, ys = [.str ⟨#[lE o0]⟩ v90, .str ⟨#[lE o1]⟩ v91, .str ⟨#[lE o2]⟩ v92] ∧ nw = (ax, tupA #[.int 1 s.toks, .int 2 (s.toks + 1), .int 3 (s.toks + 1 + 1)]) :: news)
    (bodyT_eq _ _ _ scope pos cle env) hh hclos hcell hkind hnames (fun _ => .head _) (fun _ _ h => h) (fun ax I C D s' hax hI2 hID hDC e1 e2 e3 => ?_) (fun ax D h tk ys nw F' N' off' _ hf => ?_) (by intro _; rfl) ?_
  · exact keep_turn (k := 2) (i := 0) (v := .int 1 _) (f := fun t => .str ⟨#[lE o0]⟩ t) hkind kx hID hDC (by show (0 : Nat) ≤ 100; decide) (fun u hu => (Option.some.inj hu).symm) (fun oI oC mC h tk E F hoC em N off => dig_elt (p := 4) hi hl hz0 (by decide) (by decide) (by decide) (by decide) (by decide) x0 hkind kx (f1 C) lk1 F N (.tail _ (.tail _ (.tail _ (.tail _ hc2)))) dc2 (.tail _ (.tail _ (.tail _ (.tail _ hnu)))) hoC em) fun v90 => keep_turn (k := 1) (i := 1) (v := .int 2 _) (f := fun t => .str ⟨#[lE o1]⟩ t) hkind kx hID hDC (by show (1 : Nat) ≤ 100; decide) (fun u hu => (Option.some.inj hu).symm) (fun oI oC mC h tk E F hoC em N off => dig_elt (p := 16) hi hl hz0 (by decide) (by decide) (by decide) (by decide) (by decide) x1 hkind kx (f1 C) lk1 F N (.tail _ (.tail _ (.tail _ (.tail _ hc2)))) dc2 (.tail _ (.tail _ (.tail _ (.tail _ hnu)))) hoC em) fun v91 => keep_turn (k := 0) (i := 2) (v := .int 3 _) (f := fun t => .str ⟨#[lE o2]⟩ t) hkind kx hID hDC (by show (2 : Nat) ≤ 100; decide) (fun u hu => (Option.some.inj hu).symm) (fun oI oC mC h tk E F hoC em N off => dig_elt (p := 64) hi hl hz0 (by decide) (by decide) (by decide) (by decide) (by decide) x2 hkind kx (f1 C) lk1 F N (.tail _ (.tail _ (.tail _ (.tail _ hc2)))) dc2 (.tail _ (.tail _ (.tail _ (.tail _ hnu)))) hoC em) fun v92 => ⟨v90, v91, v92, rfl, rfl⟩
  · obtain ⟨v90, v91, v92, rfl, rfl⟩ := hf
    refine hret D v90 v91 v92 h tk F' (cb_drop N' fun p hp => ?_)
    rcases List.mem_cons.mp hp with rfl | hp
    · exact .head _
    · exact .tail _ (.tail _ hp)
  · refine Tuple_ (spliced_more (wpAny_Constant_int (spliced_more (wpAny_Constant_int (spliced_more (wpAny_Constant_int (spliced_none ?_)))))))
    exact newTuple_N F N (fun h' F' N' => ⟨_, h', _, rfl, rfl, F', N', fun p hp => Heap.lt_size (N p hp).1⟩) (Nat.le_of_ble_eq_true rfl)
end Mine
end

section
open PySem PySem.W PyProof.Rows PySem.Spec PySem.Calls
set_option Elab.async false
set_option maxRecDepth 100000
namespace Mine
theorem kwn_LW : True := by
  k_with_none
  trivial
theorem fillLW : RW = RW ∧ KF = KF := by
  k_fill
  exact ⟨rfl, rfl⟩
set_option maxHeartbeats 0
set_option rowWalk.seconds 0
theorem nums_eq {T : Nat → Plain.Told} {n i j : Nat} (hi : i ≤ n) (hj : j ≤ n) (h : ((List.range (n + 1)).map fun k => (Plain.num T k : Int)).getD i 0 = ((List.range (n + 1)).map fun k => (Plain.num T k : Int)).getD j 0) : Plain.num T i = Plain.num T j := by
  have key : ∀ k, k ≤ n → ((List.range (n + 1)).map fun k => (Plain.num T k : Int)).getD k 0 = (Plain.num T k : Int) := by
    intro k hk
    rw [List.getD_eq_getElem?_getD, List.getElem?_map, List.getElem?_range (by omega)]
    rfl
  rw [key i hi, key j hj] at h
  exact Int.ofNat.inj h
theorem law_walk : WalkO qv looseL (XL qv []) (InK KT) RW.row.toRowW dLaw [] fun f vs => PySem.call f vs := by
  intro w s₀ s₁ mg mb G Y fa o pm cd doc dV kV ho hd hcd hD hmg hg args vals as hpre hlay hrd hwl hlo
  obtain ⟨KX, y1, y2⟩ := kt_in Y
  have X := (Ground.X G).1
  have V := (Ground.X G).2
  refine Ground.open G ?_
  intro T B D TE TW
  try (refine guard_noD D (by decide +kernel) ?_; clear D)
  have hT9 : TabsAt ([(108, 104), (115, 111)] : List (Addr × Addr)) s₁.heap := List.forall_mem_cons.mpr ⟨⟨codeHd_of_K (c := 108) (P := 104) KX (by kernel_rfl), y1⟩, List.forall_mem_cons.mpr ⟨⟨codeHd_of_K (c := 115) (P := 111) KX (by kernel_rfl), y2⟩, fun _ h => nomatch h⟩⟩
  clear hmg
  wrow_args hpre hlay hrd hwl hlo
  all_goals (
    first | refine callC_kw (enter_call ?_) | refine enter_call ?_
    w_top on
    kn_posts
    w_call any ho hd hcd hD T F
    clear hd
    kn_ghosts F T
    k_drop
    skip)
  k_with_none
  k_with "!call ref" => (k_dflt (refine' given_ok ?hl ?hi ?hz ?B ?F ?X ?NR ?T ?hk ?hd ?hu ?_; (case hl => assumption); (case hi => assumption); (case hz => omega); (case B => k_asm); (case F => k_asm); (case X => k_asm); (case NR => k_asm); (case T => k_asm); (case hk => first | exact rfl | assumption); (case hd => ktr_room); (case hu => ktr_units)); intro G1 n1 x0 x1 x2 x3 tx0 tx1 tx2 tx3 h1 tk1 b0 b1 b2 b3 F1 N1 l1; (replace l1 := allNe_of l1); (simp only [AllNe, and_true] at l1); (try k_sweep); (try dsimp only); (try k_fold))
  k_with "!eval ListComp" => (k_dflt ((refine' tape_comp ?hkind ?kx ?k1 ?k2 ?f1 ?f2 ?hge ?hclos ?hcell ?hnames ?B ?X ?T ?hk ?hd ?hu ?F ?N ?hpl ?hp0 ?hp1 ?hp2 ?q0 ?q1 ?q2 ?hev ?contT; (case hkind => exact rfl); (case hclos => exact rfl); (case hcell => decide); (case hnames => decide); (case kx => exact rfl); (case k1 => exact rfl); (case k2 => exact rfl); (case f1 => intro _; with_unfolding_all rfl); (case f2 => intro _; with_unfolding_all rfl); (case hge => exact rfl); (case B => k_asm); (case F => k_asm); (case X => k_asm); (case N => k_asm); (case T => k_asm); (case hk => first | exact rfl | assumption); (case hd => ktr_room); (case hu => ktr_units);(case hev => (refine' nameX_L ?F2 ?v2 ?_ ?a2 ?b2; (case F2 => k_asm); (case a2 => rfl); (case b2 => rfl); (case v2 => rfl); exact ⟨rfl, rfl⟩)); (case hpl => k_mem); (case hp0 => k_mem); (case hp1 => k_mem); (case hp2 => k_mem); (case q0 => assumption); (case q1 => assumption); (case q2 => assumption); (case' contT => intro D4 u0 u1 u2 h4 tk4 F4 N4 l4); (try k_sweep); (try dsimp only); (try k_fold))))
  k_with "!eval ListComp" => (k_dflt ((refine' meant_comp ?hh ?hkind ?k1 ?k2 ?hclos ?hcell ?hnames ?F ?N ?hpl ?hp0 ?hp1 ?hp2 ?hev ?contM; (case hh => exact rfl); (case hkind => exact rfl); (case hclos => exact rfl); (case hcell => decide); (case hnames => decide); (case k1 => exact rfl); (case k2 => exact rfl); (case F => k_asm); (case N => k_asm); (case hev => (refine' nameX_L ?F2 ?v2 ?_ ?a2 ?b2; (case F2 => k_asm); (case a2 => rfl); (case b2 => rfl); (case v2 => rfl); exact ⟨rfl, rfl⟩)); (case hpl => k_mem); (case hp0 => k_mem); (case hp1 => k_mem); (case hp2 => k_mem); (case' contM => intro D3 h3 tk3 F3 N3 l3); (try k_sweep); (try dsimp only); (try k_fold))))
  k_with "!exec Assign cons ListComp" => (k_dflt ((refine' pieces_asg ?hLe ?hsw ?hy ?hp ?hkind ?kx ?f1 ?hge ?hclos ?hcell ?hnames ?B ?X ?T ?hk ?hd ?hu ?F ?N ?hG ?b1 ?b2 ?b3 ?hev ?contP; (case hLe => rfl); (case hsw => with_unfolding_all rfl); (case hy => rfl); (case hp => rfl); (case hkind => exact rfl); (case hclos => exact rfl); (case hcell => decide); (case hnames => decide); (case kx => exact rfl); (case f1 => intro _; with_unfolding_all rfl); (case hge => exact rfl); (case B => k_asm); (case F => k_asm); (case X => k_asm); (case N => k_asm); (case T => k_asm); (case hk => first | exact rfl | assumption); (case hd => ktr_room); (case hu => ktr_units); (case hG => k_mem); (case b1 => assumption); (case b2 => assumption); (case b3 => assumption); (case hev => (refine' nameX_L ?F2 ?v2 ?_ ?a2 ?b2; (case F2 => k_asm); (case a2 => rfl); (case b2 => rfl); (case v2 => rfl); exact ⟨rfl, rfl⟩)); (case' contP => intro pl P0 P1 P2 y0 y1 y2 z0 z1 z2 ty0 ty1 ty2 tz0 tz1 tz2 h2 tk2 q0 q1 q2 F2 N2; (obtain ⟨l0, rfl, a0, bb0⟩ := piece_sg q0); (obtain ⟨l1, rfl, a1, bb1⟩ := piece_sg q1); (obtain ⟨l2, rfl, a2, bb2⟩ := piece_sg q2)); (try k_sweep); (try dsimp only); (try k_fold))))
  k_with "call builtin:str.join" => (k_dflt (refine' join_tapes ?N ?hm ?b0 ?b1 ?b2 ?_; (case N => k_asm); (case hm => k_mem); (case b0 => assumption); (case b1 => assumption); (case b2 => assumption)); intro t8 k8)
  k_with "binaryOp Add str str" => ((with_reducible show wpAny _ _ (binaryOp _ (Value.str _ _) (Value.str (tapeS _) _)) _ _ _); (k_dflt (refine' add_dot ?hl ?_; (case hl => (simp only [List.length_append]; omega)))); intro t8 k8)
  k_with "binaryOp Add str str" => ((with_reducible show wpAny _ _ (binaryOp _ (Value.str _ _) (Value.str (tapeS _) _)) _ _ _); (have N9 := cb_drop N4 (fun p hp => List.Mem.tail _ (List.Mem.tail _ (List.Mem.tail _ (List.Mem.tail _ (List.Mem.tail _ (List.Mem.tail _ hp))))))); (clear N4 l3 l4); (k_dflt (refine' add_dot ?hl ?_; (case hl => (simp only [List.length_append]; omega)))); intro t8 k8)
  k_with "!call ref" => ((rename News _ _ _ _ => lN'); (k_dflt (refine' law_cells lN' ?d3 ?d2 ?d1 ?_; (case d3 => assumption); (case d2 => assumption); (case d1 => assumption))); (intro q3 q2 q1 e3 e2 e1 N0); (clear lN'); (k_dflt (refine' rules_ok (rest := [(_, q3), (_, q2), (_, q1)]) ?h0 ?h1 ?B ?F ?X ?N ?NR ?off ?T ?hk ?hd ?hu ?_; (case h0 => (show (0 : Int) ≤ 453789 + x0; omega)); (case h1 => (show 453789 + x0 < (2000000000 : Int); omega)); (case N => exact cb_drop (by k_asm) (SubL.mem (by k_subL))); (case NR => exact cb_drop (by k_asm) (SubL.mem (by k_subL))); (case off => (refine off_of2 ?_; (repeat' (first | exact (fun _ h => absurd h List.not_mem_nil) | refine List.forall_mem_cons.mpr ⟨?_, ?_⟩)); all_goals (show ¬ @Eq Nat _ _; dsimp only; omega))); (case B => k_asm); (case F => k_asm); (case X => k_asm); (case T => k_asm); (case hk => first | exact rfl | assumption); (case hd => ktr_room); (case hu => ktr_units))); (intro rn rl b0r b1r b2r b3r b4r b5r b6r b7r b8r r0 r1 r2 r3 r4 r5 r6 r7 r8 gt0 gt1 gt2 gt3 gt4 gt5 gt6 gt7 gt8 rt0 rt1 rt2 rt3 rt4 rt5 rt6 rt7 rt8 g0 g1 g2 g3 g4 g5 g6 g7 g8 d0 d1 d2 d3 d4 d5 h5 tk5 hg0 hg1 hg2 hg3 hg4 hg5 hg6 hg7 hg8 hd0 hd1 hd2 hd3 hd4 hd5 F5 N5 NR5 hO5); (have N5c := news_app (a := [(_, q3), (_, q2), (_, q1)]) NR5 N5); (simp only [List.cons_append, List.nil_append] at N5c); (clear NR5 N5); (clear N0); (try k_sweep); (try dsimp only); (try k_fold))
  k_with "!call ref" => ((k_dflt (refine' numbers_ok (rest := [(_, q3), (_, q2), (_, q1)]) ?hn hg0 hg1 hg2 hg3 hg4 hg5 hg6 hg7 hg8 ?B ?F ?X ?N ?NR ?off ?T ?hk ?hd ?hu ?_; (case hn => (simp only [List.length_cons, List.length_append]; omega)); (case N => exact cb_drop (by k_asm) (SubL.mem (by k_subL))); (case NR => exact cb_drop (by k_asm) (SubL.mem (by k_subL))); (case off => exact off_of2 hO5); (case B => k_asm); (case F => k_asm); (case X => k_asm); (case T => k_asm); (case hk => first | exact rfl | assumption); (case hd => ktr_room); (case hu => ktr_units))); (intro nu vs nn qa qb h6 tk6 hv6 F6 N6 NR6 hO6); (have N6c := news_app (a := [(_, q3), (_, q2), (_, q1)]) NR6 N6); (simp only [List.cons_append, List.nil_append] at N6c); (clear NR6 N6); (try k_sweep); (try dsimp only); (try k_fold))
  k_with "!call ref" => ((k_dflt (refine' page_ok (nu := nu) (nus := vs.toArray) (nn := nn) (q1 := qa) (q2 := qb) (rest := [(_, q3), (_, q2), (_, q1)]) hg0 hd0 hg1 hd1 hg2 hd2 hg3 hd3 hg4 hd4 hg5 hd5 hg6 (.inr rfl) hg7 (.inr rfl) hg8 (.inr rfl) ?B ?F ?X ?N ?NR ?off ?T ?hk ?hd ?hu ?_; (case N => exact cb_drop (by k_asm) (SubL.mem (by k_subL))); (case NR => exact cb_drop (by k_asm) (SubL.mem (by k_subL))); (case off => exact off_of2 (offB hO6)); (case B => k_asm); (case F => k_asm); (case X => k_asm); (case T => k_asm); (case hk => first | exact rfl | assumption); (case hd => ktr_room); (case hu => ktr_units))); (intro ln pg dx lx hs9 tt c0r c1r c2r c3r c4r c5r c6r c7r c8r u0 u1 u2 u3 u4 u5 u6 u7 u8 h7 tk7 F7 N7 NR7 hO7); (have N7c := news_app (a := [(_, q3), (_, q2), (_, q1)]) NR7 N7); (simp only [List.cons_append, List.nil_append] at N7c); (clear NR7 N7); (try k_sweep); (try dsimp only); (try k_fold))
  k_with "!call ref" => ((k_dflt (refine' walk_okF (nu := nu) (nus := vs.toArray) (nn := nn) (q1 := qa) (q2 := qb) (rest := [(_, q3), (_, q2), (_, q1)]) (m0 := 0) (i0 := 0) ?hn ?hi0 ?HZ ?B ?F ?X ?N ?NR ?off ?T ?hk ?hd ?hu ?_; (case hn => (simp only [List.length_cons, List.length_append]; omega)); (case hi0 => simp only [List.length_cons]; omega); (case HZ => (intro mi; rcases fin3 mi with rfl | rfl | rfl <;> (show (1 : Int) ≠ 0; decide))); (case N => exact cb_drop (by k_asm) (SubL.mem (by k_subL))); (case NR => exact cb_drop (by k_asm) (SubL.mem (by k_subL))); (case off => exact off_of2 (offB hO7)); (case B => k_asm); (case F => k_asm); (case X => k_asm); (case T => k_asm); (case hk => first | exact rfl | assumption); (case hd => ktr_room); (case hu => ktr_units))); (intro tp ua ub h8 tk8 F8 N8 NR8 l8); (k_dflt ((have H0 : ∀ m, ((tabT (pick g0 g1 g2 g3 g4 g5 g6 g7 g8) (pick d0 d1 d2 d3 d4 d5 1 1 1) (2 :: (l0 ++ (l1 ++ l2)))) 0 m).2 = true := fun m => (show decide _ = true from decide_eq_true (by rcases fin3 m with rfl | rfl | rfl <;> (show (1 : Int) ≠ 0; decide)))); (have hn0 : 0 < (2 :: (l0 ++ (l1 ++ l2))).length := by (simp only [List.length_cons]; omega)); (have hn2 : (2 :: (l0 ++ (l1 ++ l2))).length < 20 := by (simp only [List.length_cons, List.length_append]; omega)); (rw [firsts_eq H0 hn0 hn2, last_eq H0 hn0] at N8))); (have N8c := news_app (a := [(_, q3), (_, q2), (_, q1)]) NR8 N8); (simp only [List.cons_append, List.nil_append] at N8c); (clear NR8 N8); (try k_sweep); (try dsimp only); (try k_fold))
  k_with "!storeName ref" => ((k_dflt (refine' st_cell ?F ?N ?R ?hne ?hc ?hd ?_ ?hk ?hx; (case hx => rfl); (case hk => rfl); (case F => k_asm); (case N => k_asm); (case hc => rfl); (case R => repeat (first | exact Rem.head | apply Rem.tail)); (case hd => assumption); (case hne => exact List.forall_mem_cons.mpr ⟨by (show ¬ @Eq Nat _ _; dsimp only; omega), List.forall_mem_cons.mpr ⟨by (show ¬ @Eq Nat _ _; dsimp only; omega), fun p hp => hO6 (_, q2) (by k_mem) p hp⟩⟩))); (clear N6c); (intro h9 q2 F9 N9 e9); (replace N9 := news_swap N9);  (try k_sweep); (try dsimp only); (try k_fold))
  k_with "!storeName ref" => ((k_dflt (refine' st_cell ?F ?N ?R ?hne ?hc ?hd ?_ ?hk ?hx; (case hx => rfl); (case hk => rfl); (case F => k_asm); (case N => k_asm); (case hc => rfl); (case R => repeat (first | exact Rem.head | apply Rem.tail)); (case hd => assumption); (case hne => exact List.forall_mem_cons.mpr ⟨by (show ¬ @Eq Nat _ _; dsimp only; omega), List.forall_mem_cons.mpr ⟨by (show ¬ @Eq Nat _ _; dsimp only; omega), fun p hp => hO7 (_, q3) (by k_mem) p hp⟩⟩))); (clear N7c); (intro h9 q3 F9 N9 e9);  (try k_sweep); (try dsimp only); (try k_fold))
  k_with "!eval ListComp" => (k_dflt ((refine' firsts_comp (T := (tabT (pick g0 g1 g2 g3 g4 g5 g6 g7 g8) (pick d0 d1 d2 d3 d4 d5 1 1 1) (2 :: (l0 ++ (l1 ++ l2))))) (n := (2 :: (l0 ++ (l1 ++ l2))).length) ?hh hv6 ?hn ?hkind ?kx ?hclos ?hcell ?hnames ?F ?N ?hnu ?hev ?contF; (case hh => exact rfl); (case hn => (simp only [List.length_cons, List.length_append]; omega)); (case hkind => exact rfl); (case hclos => exact rfl); (case hcell => decide); (case hnames => decide); (case kx => exact rfl); (case F => k_asm); (case N => k_asm); (case hnu => k_mem); (case hev => (refine' nameX_C ?N2 ?c2 ?m2 ?d2 ?_ ?a2 ?b2; (case a2 => rfl); (case b2 => rfl); (case N2 => k_asm); (case c2 => rfl); (case m2 => k_mem); (case d2 => assumption); exact ⟨rfl, rfl⟩)); (case' contF => intro D10 ys10 h10 tk10 hy10 F10 N10); (try k_sweep); (try dsimp only); (try k_fold))))
  k_with "!eval ListComp" => (k_dflt ((refine' ends_comp (sg := (2 :: (l0 ++ (l1 ++ l2)))) (n := (l0 ++ (l1 ++ l2)).length) (nu := nu) (nus := vs.toArray) (nn := nn) (q1 := qa) (q2 := qb) (RC := [(_, q3), (_, q2), (_, q1)]) ?hlen ?hn ?HZ ?hkind ?kx ?f1 ?f2 ?f3 ?f4 ?hge ?hbi ?lk1 ?lk2 ?hclos ?hcell ?hnames ?hc3 ?hc1 ?dc3 ?dc1 ?hOff ?B ?X ?T ?hk ?hd ?hu ?F ?N ?contE; (case N => exact news_app (cb_drop (by k_asm) (SubL.mem (by k_subL))) (cb_drop (by k_asm) (SubL.mem (by k_subL)))); (case hlen => rfl); (case hn => (simp only [List.length_cons, List.length_append]; omega)); (case HZ => (intro mi; rcases fin3 mi with rfl | rfl | rfl <;> (show (1 : Int) ≠ 0; decide))); (case hkind => exact rfl); (case hclos => exact rfl); (case hcell => decide); (case hnames => decide); (case kx => exact rfl); (case f1 => intro _; with_unfolding_all rfl); (case f2 => intro _; with_unfolding_all rfl); (case f3 => intro _; with_unfolding_all rfl); (case f4 => intro _; with_unfolding_all rfl); (case hge => exact rfl); (case hbi => exact rfl); (case lk1 => exact rfl); (case lk2 => exact rfl); (case hc3 => k_mem); (case hc1 => k_mem); (case dc3 => assumption); (case dc1 => assumption); (case hOff => exact offB hO7); (case B => k_asm); (case F => k_asm); (case X => k_asm); (case T => k_asm); (case hk => first | exact rfl | assumption); (case hd => ktr_room); (case hu => ktr_units); (case' contE => intro D11 v90 v91 v92 h11 tk11 F11 N11; (simp only [List.cons_append, List.nil_append] at N11)); (try k_sweep); (try dsimp only); (try k_fold))))
  k_with "!eval ListComp" => (k_dflt ((have hv6b : IntsAre vs ((List.range (2 :: (l0 ++ (l1 ++ l2))).length).map (fun k => (Plain.num (tabT (pick g0 g1 g2 g3 g4 g5 g6 g7 g8) (pick d0 d1 d2 d3 d4 d5 1 1 1) (2 :: (l0 ++ (l1 ++ l2)))) k : Int)) ++ [(fun k => (Plain.num (tabT (pick g0 g1 g2 g3 g4 g5 g6 g7 g8) (pick d0 d1 d2 d3 d4 d5 1 1 1) (2 :: (l0 ++ (l1 ++ l2)))) k : Int)) (2 :: (l0 ++ (l1 ++ l2))).length]) := by (have z9 := hv6; rw [List.range_succ, List.map_append] at z9; exact z9)); (refine' digs_comp (ks := (List.range (2 :: (l0 ++ (l1 ++ l2))).length).map (fun k => (Plain.num (tabT (pick g0 g1 g2 g3 g4 g5 g6 g7 g8) (pick d0 d1 d2 d3 d4 d5 1 1 1) (2 :: (l0 ++ (l1 ++ l2)))) k : Int))) (z := (fun k => (Plain.num (tabT (pick g0 g1 g2 g3 g4 g5 g6 g7 g8) (pick d0 d1 d2 d3 d4 d5 1 1 1) (2 :: (l0 ++ (l1 ++ l2)))) k : Int)) (2 :: (l0 ++ (l1 ++ l2))).length) (vs := vs) (nn := nn) (o0 := Plain.kn (tabT (pick g0 g1 g2 g3 g4 g5 g6 g7 g8) (pick d0 d1 d2 d3 d4 d5 1 1 1) (2 :: (l0 ++ (l1 ++ l2)))) ((l0 ++ (l1 ++ l2)).length + 1) 0) (o1 := Plain.kn (tabT (pick g0 g1 g2 g3 g4 g5 g6 g7 g8) (pick d0 d1 d2 d3 d4 d5 1 1 1) (2 :: (l0 ++ (l1 ++ l2)))) ((l0 ++ (l1 ++ l2)).length + 1) 1) (o2 := Plain.kn (tabT (pick g0 g1 g2 g3 g4 g5 g6 g7 g8) (pick d0 d1 d2 d3 d4 d5 1 1 1) (2 :: (l0 ++ (l1 ++ l2)))) ((l0 ++ (l1 ++ l2)).length + 1) 2) ?hh hv6b ?hl ?hz0 ?x0 ?x1 ?x2 ?hkind ?kx ?f1 ?lk1 ?hclos ?hcell ?hnames ?F ?N ?hc2 ?dc2 ?hnu ?contD; (case hh => exact rfl); (case hl => (simp only [List.length_map, List.length_range, List.length_cons, List.length_append]; omega)); (case hz0 => exact Int.natCast_nonneg _); (case x0 => exact (num_digits _ _).2.1); (case x1 => exact (num_digits _ _).2.2.1); (case x2 => exact (num_digits _ _).2.2.2); (case hkind => exact rfl); (case hclos => exact rfl); (case hcell => decide); (case hnames => decide); (case kx => exact rfl); (case f1 => intro _; with_unfolding_all rfl); (case lk1 => exact rfl); (case F => k_asm); (case N => k_asm); (case hc2 => k_mem); (case dc2 => assumption); (case hnu => k_mem); (case' contD => intro D12 v93 v94 v95 h12 tk12 F12 N12); (try k_sweep); (try dsimp only); (try k_fold))))
  k_with "call builtin:str.join" => (k_dflt (refine' join_ones (cs := (List.range (2 :: (l0 ++ (l1 ++ l2))).length).map fun j => lE (Plain.fs (tabT (pick g0 g1 g2 g3 g4 g5 g6 g7 g8) (pick d0 d1 d2 d3 d4 d5 1 1 1) (2 :: (l0 ++ (l1 ++ l2)))) (j + 1))) ?N ?hm ?hi ?hl ?_; (case N => k_asm); (case hm => exact .head _); (case hi => (rw [List.map_map]; exact hy10)); (case hl => (simp only [List.length_map, List.length_range, List.length_cons, List.length_append]; omega))); intro t8 k8; (clear hy10))
  k_with "call builtin:str.join" => (k_dflt (refine' join_ones (cs := [lE (Plain.kn (tabT (pick g0 g1 g2 g3 g4 g5 g6 g7 g8) (pick d0 d1 d2 d3 d4 d5 1 1 1) (2 :: (l0 ++ (l1 ++ l2)))) ((l0 ++ (l1 ++ l2)).length + 1) 0), lE (Plain.kn (tabT (pick g0 g1 g2 g3 g4 g5 g6 g7 g8) (pick d0 d1 d2 d3 d4 d5 1 1 1) (2 :: (l0 ++ (l1 ++ l2)))) ((l0 ++ (l1 ++ l2)).length + 1) 1), lE (Plain.kn (tabT (pick g0 g1 g2 g3 g4 g5 g6 g7 g8) (pick d0 d1 d2 d3 d4 d5 1 1 1) (2 :: (l0 ++ (l1 ++ l2)))) ((l0 ++ (l1 ++ l2)).length + 1) 2)]) ?N ?hm ?hi ?hl ?_; (case N => k_asm); (case hm => k_mem); (case hi => exact .cons _ _ (.cons _ _ (.cons _ _ .nil))); (case hl => (show 3 ≤ 20; decide))); intro t8 k8)
  k_with "!call ref" => ((k_dflt (refine' cut_ok (vs := vs) (nu := nu) (nn := nn) (q1 := qa) (q2 := qb) (ks := (List.range ((2 :: (l0 ++ (l1 ++ l2))).length + 1)).map (fun k => (Plain.num (tabT (pick g0 g1 g2 g3 g4 g5 g6 g7 g8) (pick d0 d1 d2 d3 d4 d5 1 1 1) (2 :: (l0 ++ (l1 ++ l2)))) k : Int))) (last := outS (Plain.fs (tabT (pick g0 g1 g2 g3 g4 g5 g6 g7 g8) (pick d0 d1 d2 d3 d4 d5 1 1 1) (2 :: (l0 ++ (l1 ++ l2)))) (2 :: (l0 ++ (l1 ++ l2))).length)) ?hn ?hks hv6 ?hsg ?HZ ?HM ?B ?F ?X ?N ?T ?hk ?hd ?hu ?_; (case hn => (simp only [List.length_cons, List.length_append]; omega)); (case hks => (rw [List.length_map, List.length_range])); (case hsg => rfl); (case HZ => (intro mi; rcases fin3 mi with rfl | rfl | rfl <;> (show (1 : Int) ≠ 0; decide))); (case HM => exact fun i j z1 z2 z3 z4 => congrArg outS (cut_HM (gI := (pick g0 g1 g2 g3 g4 g5 g6 g7 g8)) (dI := (pick d0 d1 d2 d3 d4 d5 1 1 1)) (by intro mi; rcases fin3 mi with rfl | rfl | rfl <;> (show (1 : Int) ≠ 0; decide)) z1 z2 z3 (nums_eq (Nat.le_trans (Nat.le_of_lt z2) z3) z3 z4))); (case N => exact cb_drop (by k_asm) (SubL.mem (by k_subL))); (case B => k_asm); (case F => k_asm); (case X => k_asm); (case T => k_asm); (case hk => first | exact rfl | assumption); (case hd => ktr_room); (case hu => ktr_units))); (intro h13 tk13 F13 N13); (try k_sweep); (try dsimp only); (try k_fold))
  k_steps
end Mine
end

end

set_option Elab.async false
set_option maxRecDepth 100000
theorem PySem.Challenge.cw_to0082_01_holds : PySem.Challenge.rw_to0082_01.Holds := by
  exact Mine.hd2 Mine.law_walk
