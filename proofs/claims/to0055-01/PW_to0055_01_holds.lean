import PyProof.Rows.All
import Wide.All
import OpenK.AllK
import Wide.FinOn
import PySem.Challenge.RW_to0055_01
set_option Elab.async false
section
open PySem PySem.W PyProof.Rows PySem.Calls
namespace T55
set_option maxRecDepth 20000
set_option linter.unusedVariables false
noncomputable abbrev HP : Program := PySem.Challenge.pw_to0055_01
noncomputable abbrev m0 : Nat := 11
noncomputable abbrev an : Option Value := some (.ref 6)

theorem segGo_trans {tb : String → Option Builtin} {p : Program} {w : World} {n₀ : Nat} {ann : Option Value} {b : Nat} : ∀ {n k : Nat} {s s' : Shared} {t t' : Thread} {r : Option (Shared × Thread)},
    segGo tb p w n₀ ann b n s t = some (s', t') → segGo tb p w n₀ ann b k s' t' = r → segGo tb p w n₀ ann b (n + k) s t = r
  | 0, k, s, s', t, t', r, h, e => by
    obtain ⟨rfl, rfl⟩ : s = s' ∧ t = t' := by simpa [segGo] using h
    rw [Nat.zero_add]; exact e
  | n + 1, k, s, s', t, t', r, h, e => by
    rw [show n + 1 + k = n + k + 1 by omega]
    unfold segGo at h ⊢
    cases he : endAt b t with
    | some f => rw [he] at h; cases h
    | none =>
      rw [he] at h
      cases hk : stepOk n₀ ann t with
      | false => rw [hk] at h; cases h
      | true =>
        rw [hk] at h
        cases hs : step (denote tb) p w s t with
        | halt o s₂ => rw [hs] at h; cases h
        | go s₂ t₂ => rw [hs] at h; exact segGo_trans h e
theorem segGo_step {w : World} {n : Nat} {s s₁ : Shared} {t t₁ : Thread} (h1 : endAt 1 t = none) (h2 : stepOk m0 an t = true) (h3 : step (denote table) HP w s t = .go s₁ t₁) :
    segGo table HP w m0 an 1 (n + 1) s t = segGo table HP w m0 an 1 n s₁ t₁ := by
  conv => lhs; unfold segGo
  rw [h1, h2, h3]
noncomputable def isNode : Sem Fin → Bool
  | .pure (.done _) => false
  | _ => true
theorem endAt_node {t : Thread} (h : isNode t.cur = true) : endAt 1 t = none := by
  unfold endAt
  split
  · rename_i f e1 e2; rw [e2] at h; cases h
  · rfl

noncomputable def QR (w : World) {α : Type} (n : Nat) (s : Shared) (m : Sem α) (Q : α → Shared → Prop) : Prop :=
  ∀ (K : α → Sem Fin) (H : Value → Sem Fin) (gd : Bool → Bool) (lv : List Value → List Value) (c : Code) (pos : Pos) (B : List Frame), 0 < B.length →
    ∃ k a s' pos', k ≤ n ∧ Q a s' ∧ segGo table HP w m0 an 1 k s ⟨m.wrap K H gd lv, c, pos, B⟩ = some (s', ⟨K a, c, pos', B⟩)

variable {w : World} {α β : Type} {n k : Nat} {s : Shared}

theorem q_pure {a : α} {Q : α → Shared → Prop} (h : Q a s) : QR w n s (pure a) Q := fun K H gd lv c pos B hB => ⟨0, a, s, pos, Nat.zero_le _, h, rfl⟩
theorem q_mono {m : Sem α} {Q Q' : α → Shared → Prop} (h : QR w n s m Q) (le : n ≤ k) (hq : ∀ a s', Q a s' → Q' a s') : QR w k s m Q' := fun K H gd lv c pos B hB => by
  obtain ⟨j, a, s', p', h1, h2, h3⟩ := h K H gd lv c pos B hB
  exact ⟨j, a, s', p', Nat.le_trans h1 le, hq _ _ h2, h3⟩
theorem q_bind {m : Sem α} {f : α → Sem β} {Q : β → Shared → Prop} (h : QR w n s m fun a s' => QR w k s' (f a) Q) : QR w (n + k) s (m >>= f) Q := fun K H gd lv c pos B hB => by
  rw [Sem.bind_eq_wrap', Sem.wrap_wrap]
  obtain ⟨j, a, s', p', h1, h2, h3⟩ := h (fun a => (f a).wrap K H gd lv) (fun e => (Sem.raise e : Sem β).wrap K H gd lv) (fun g => gd (id g)) (fun l => lv (id l)) c pos B hB
  obtain ⟨j', a', s'', p'', g1, g2, g3⟩ := h2 K H gd lv c p' B hB
  exact ⟨j + j', a', s'', p'', Nat.add_le_add h1 g1, g2, segGo_trans h3 g3⟩
theorem q_then {N : Nat} (n : Nat) {m : Sem α} {f : α → Sem β} {Q : β → Shared → Prop} (h : QR w n s m fun a s' => QR w (N - n) s' (f a) Q) (le : n ≤ N := by decide) : QR w N s (m >>= f) Q :=
  q_mono (q_bind h) (by omega) fun _ _ x => x
theorem q_is {m : Sem α} {a : α} {f : α → Sem β} {Q : β → Shared → Prop} (e : m = pure a) (h : QR w n s (f a) Q) : QR w n s (m >>= f) Q := by
  rw [e]; exact h
theorem q_keep {m : Sem α} {vs : List Value} {Q : α → Shared → Prop} (h : QR w n s m Q) : QR w n s (m.keep vs) Q := fun K H gd lv c pos B hB => by
  rw [Sem.keep_eq_wrap, Sem.wrap_wrap]
  exact h _ _ _ _ c pos B hB
theorem q_holding {m : Sem α} {vs : List Value} {Q : α → Shared → Prop} (h : QR w n s m Q) : QR w n s (holding vs m) Q := by
  unfold holding
  split
  · exact h
  · exact q_keep h
theorem q_onRaise {m : Sem α} {f : Value → Sem Unit} {Q : α → Shared → Prop} (h : QR w n s m Q) : QR w n s (m.onRaise f) Q := fun K H gd lv c pos B hB => by
  rw [Sem.onRaise_eq_wrap, Sem.wrap_wrap]
  exact h _ _ _ _ c pos B hB
theorem q_eq {m m' : Sem α} {Q : α → Shared → Prop} (e : m = m') (h : QR w n s m' Q) : QR w n s m Q := e ▸ h

theorem q_rule {t : String} {Q : Unit → Shared → Prop} (h : Q () s) : QR w 1 s (rule t) Q := fun K H gd lv c pos B hB =>
  ⟨1, (), s, pos, Nat.le_refl _, h, segGo_step (endAt_node rfl) rfl rfl⟩
theorem q_stand {p : Pos} {Q : Unit → Shared → Prop} (h : Q () s) : QR w 1 s (standAt p) Q := fun K H gd lv c pos B hB =>
  ⟨1, (), s, p, Nat.le_refl _, h, segGo_step (endAt_node rfl) rfl rfl⟩
theorem q_fresh {Q : Tok → Shared → Prop} (h : Q s.toks { s with toks := s.toks + 1 }) : QR w 1 s fresh Q := fun K H gd lv c pos B hB =>
  ⟨1, s.toks, { s with toks := s.toks + 1 }, pos, Nat.le_refl _, h, segGo_step (endAt_node rfl) rfl rfl⟩
theorem q_ask {Q : Setting → Shared → Prop} (h : Q ⟨HP, w.params⟩ s) : QR w 1 s ask Q := fun K H gd lv c pos B hB =>
  ⟨1, _, s, pos, Nat.le_refl _, h, segGo_step (endAt_node rfl) rfl rfl⟩
theorem q_alloc {o : Obj} {Q : Addr → Shared → Prop} (h : Q s.heap.objs.size { s with heap := s.heap.push o }) : QR w 1 s (alloc o) Q := fun K H gd lv c pos B hB =>
  ⟨1, _, _, pos, Nat.le_refl _, h, segGo_step (endAt_node rfl) rfl rfl⟩
theorem q_loadPart {a : Addr} {p : Option Value} {o : Obj} {Q : Obj → Shared → Prop} (ho : s.heap.get? a = some o) (h : Q o s) : QR w 1 s (loadPart a p) Q := fun K H gd lv c pos B hB =>
  ⟨1, o, s, pos, Nat.le_refl _, h, segGo_step (endAt_node rfl) rfl (by
    obtain ⟨heap, gens, drawn, toks, os⟩ := s
    show (match heap.get? a with | some o => _ | none => _) = _
    rw [show heap.get? a = some o from ho]; rfl)⟩
theorem q_updatePart {a : Addr} {p : Option Value} {f : Obj → Obj} {o : Obj} {Q : Unit → Shared → Prop} (ha : m0 ≤ a) (ho : s.heap.get? a = some o) (h : Q () { s with heap := s.heap.update a f }) : QR w 1 s (updatePart a p f) Q := fun K H gd lv c pos B hB =>
  ⟨1, (), _, pos, Nat.le_refl _, h, segGo_step (endAt_node rfl) (by
    show (true && (Nat.ble m0 a || a == mainNs || a == cStatics || an == some (.ref a))) = true
    rw [Nat.ble_eq_true_of_le ha]; rfl) (by
    obtain ⟨heap, gens, drawn, toks, os⟩ := s
    show (if (heap.get? a).isSome = true then _ else _) = _
    rw [show heap.get? a = some o from ho]; rfl)⟩

theorem wrap_id {x : Sem Fin} : x.wrap .pure .raise id id = x := by
  induction x <;> simp only [Sem.wrap, id, *]

theorem q_call_builtin {nm : String} {args : Args} {b : Builtin} {Q : Value → Shared → Prop} (hchk : checkBuiltinCall nm args = pure ()) (hb : entryFor table nm = some b) (hl : nm.startsWith "lifetime." = false)
    (h : QR w n s (b args) fun fin s' => ∃ v, fin = .done (.ret v) ∧ Q v s') : QR w (n + 3) s (call (.builtin nm) args.pos args.kw) Q := fun K H gd lv c pos B hB => by
  let k' : Result → Sem Fin := fun r => Sem.wrap K H gd lv (Sem.bind ((fun | .ok f => .pure f | .error e => .raise e : Result → Sem Flow) r) fun x => match x with | .ret v => pure v | _ => unsupported "internal:call-without-return-value")
  have e1 : (call (.builtin nm) args.pos args.kw).wrap K H gd lv = Sem.call (.call (.builtin nm) args) none (gd false) (lv []) k' := by
    show Sem.call _ _ _ _ _ = _
    rfl
  have e2 : denote table (.call (.builtin nm) args) = Sem.pure (.again (.builtin nm args)) := by
    show (checkBuiltinCall nm args >>= fun _ => again (.builtin nm args)) = _
    rw [hchk]; rfl
  have e3 : denote table (.builtin nm args) = b args := by
    show (match entryFor table nm with | some b => b args | none => unsupported ((withoutEnding? nm "#data").getD nm)) = _
    rw [hb]
  obtain ⟨heap, gens, drawn, toks, os⟩ := s
  rw [e1]
  obtain ⟨kp0, s1⟩ : ∃ kp, ∀ N, segGo table HP w m0 an 1 (N + 1) ⟨heap, gens, drawn, toks, os⟩ ⟨Sem.call (.call (.builtin nm) args) none (gd false) (lv []) k', c, pos, B⟩ = segGo table HP w m0 an 1 N ⟨heap, gens, drawn, toks, os⟩ ⟨Sem.pure (.again (.builtin nm args)), .call (.builtin nm) args, pos, .ret k' none (gd false) (lv []) c pos kp :: B⟩ :=
    ⟨_, fun N => segGo_step (endAt_node rfl) rfl (by rw [← e2]; rfl)⟩
  obtain ⟨kp1, s2⟩ : ∃ kp1, ∀ N, segGo table HP w m0 an 1 (N + 1) ⟨heap, gens, drawn, toks, os⟩ ⟨Sem.pure (.again (.builtin nm args)), .call (.builtin nm) args, pos, .ret k' none (gd false) (lv []) c pos kp0 :: B⟩ = segGo table HP w m0 an 1 N ⟨heap, gens, drawn, toks, os⟩ ⟨b args, .builtin nm args, pos, .ret k' none (gd false) (lv []) c pos kp1 :: B⟩ :=
    ⟨_, fun N => segGo_step (endAt_node rfl) (by
      show (((!(nm.startsWith "lifetime.") || _) && true && true) && true) = true
      rw [hl]; rfl) (by rw [W.step_again, e3])⟩
  obtain ⟨j, fin, s', p', h1, ⟨v, rfl, hq⟩, h3⟩ := h .pure .raise (fun x => x) (fun x => x) (.builtin nm args) pos (.ret k' none (gd false) (lv []) c pos kp1 :: B) (Nat.succ_pos _)
  replace h3 : segGo table HP w m0 an 1 j ⟨heap, gens, drawn, toks, os⟩ ⟨(b args).wrap .pure .raise _root_.id _root_.id, .builtin nm args, pos, .ret k' none (gd false) (lv []) c pos kp1 :: B⟩ = _ := h3
  rw [wrap_id] at h3
  refine ⟨1 + (1 + (j + 1)), v, s', pos, by omega, hq, ?_⟩
  rw [show 1 + (1 + (j + 1)) = (1 + (j + 1)) + 1 by omega, s1, show 1 + (j + 1) = (j + 1) + 1 by omega, s2]
  refine segGo_trans h3 ?_
  obtain ⟨heap', gens', drawn', toks', os'⟩ := s'
  exact segGo_step (by
    unfold endAt
    have : (((Frame.ret k' none (gd false) (lv []) c pos kp1 :: B).length == 1) = false) := by
      simp only [List.length_cons, beq_eq_false_iff_ne]; omega
    simp only [this]) rfl rfl

-- the hash of an int
theorem chk_hash (v : Value) {k : Int} {t : Tok} : checkBuiltinCall "int.__hash__" ⟨[.int k t], []⟩ = pure () := by
  kernel_rfl
theorem q_pyHash {k : Int} {t : Tok} {Q : Int → Shared → Prop} (h : Q (hashInt k) { s with toks := s.toks + 1 }) : QR w 20 s (pyHash (.int k t)) Q := by
  have hr := rawHash_range k
  have sp : specialOf (.int k t) "__hash__" = pure (some (.builtin "int.__hash__")) := by
    show (do typeLookup (.type "int") "__hash__") = _
    exact slot_int_hash.lookup
  unfold pyHash
  show QR w _ s (cRoomFor "hash" [.int k t] >>= _) Q
  refine q_is (a := ()) rfl ?_
  refine q_is sp ?_
  show QR w _ s (if (some (Value.builtin "int.__hash__") == some Value.none) = true then _ else _) Q
  rw [if_neg (by rw [beq_builtin_none]; exact Bool.false_ne_true)]
  refine q_is sp ?_
  show QR w _ s (callSpecialIfBoundUnlessNone? (.int k t) "__hash__" _ >>= _) Q
  refine q_then 10 (q_holding ?_)
  unfold bindSpecialIfBound?
  refine q_then 2 (q_is sp ?_)
  dsimp only
  refine q_then 1 (q_ask ?_)
  dsimp only
  refine q_eq (m' := pure (some (Value.builtin "int.__hash__", [Value.int k t]))) ?_ (q_pure ?_)
  · rw [slot_int_hash.bind]
    split <;> rfl
  show QR w _ s (if (Value.builtin "int.__hash__" == Value.none) = true then _ else _) _
  rw [builtin_beq_none, if_neg Bool.false_ne_true]
  refine q_then 5 (q_call_builtin (n := 2) (args := ⟨[.int k t], []⟩) (chk_hash .none) entry_int_hash (by decide +kernel) ?_)
  show QR w _ s (do ret (← mkInt (rawHash k))) _
  refine q_then 1 (q_then 1 (q_fresh (q_pure ?_)))
  refine q_pure ⟨_, rfl, q_pure ?_⟩
  show QR w _ _ (if (decide (-(2 : Int) ^ 63 ≤ rawHash k) && decide (rawHash k < 2 ^ 63)) = true then _ else _) Q
  rw [if_pos (by rw [decide_eq_true hr.1, decide_eq_true hr.2]; rfl)]
  exact q_pure h
end T55

end
section
open PySem PySem.W PyProof.Rows PySem.Calls
namespace T55
set_option maxRecDepth 20000
set_option linter.unusedVariables false
variable {w : World} {α β : Type} {n k : Nat} {s : Shared}

theorem q_entries {d : Addr} {p : Option Value} {o : Obj} {es ep} {Q : Array DictEntry → Shared → Prop} (ho : s.heap.get? d = some o) (hd : o.data = .dict es ep) (h : Q es s) : QR w 1 s (dictEntries d p) Q := by
  unfold dictEntries
  refine q_then 1 (q_loadPart ho ?_)
  rw [hd]; exact q_pure h
theorem q_epoch {d : Addr} {p : Option Value} {o : Obj} {es ep} {Q : Nat → Shared → Prop} (ho : s.heap.get? d = some o) (hd : o.data = .dict es ep) (h : Q ep s) : QR w 1 s (dictEpoch d p) Q := by
  unfold dictEpoch
  refine q_then 1 (q_loadPart ho ?_)
  rw [hd]; exact q_pure h
theorem places_new {es : Array DictEntry} {h : Int} (hne : ∀ e ∈ es, e.hash ≠ h) : placesWithHash es.size (fun i => es[i]?.map (·.hash)) h = [] := by
  unfold placesWithHash
  rw [List.filter_eq_nil_iff]
  intro i hi
  rw [List.mem_range] at hi
  show ¬ (Option.map (fun x => x.hash) es[i]? == some h) = true
  rw [Array.getElem?_eq_getElem hi, Option.map_some]
  simp only [beq_iff_eq, Option.some.injEq]
  exact hne _ (Array.getElem_mem hi)
theorem q_find_new {d : Addr} {o : Obj} {es ep} {k h : Int} {t : Tok} {Q : Option Nat → Shared → Prop} (ho : s.heap.get? d = some o) (hd : o.data = .dict es ep) (hne : ∀ e ∈ es, e.hash ≠ h) (hq : Q none s) :
    QR w 1 s (dictFind d (.int k t) h) Q := by
  unfold dictFind
  refine q_holding ?_
  refine q_then 1 (q_entries ho hd ?_)
  show QR w _ s (if (((Value.int k t :: (placesWithHash es.size (fun i => es[i]?.map (·.hash)) h).filterMap fun i => es[i]?.map (·.key)).all carriedByValue) = true) then _ else _) Q
  rw [places_new hne, if_pos (show ((Value.int k t :: (([] : List Nat).filterMap fun i => es[i]?.map (·.key))).all carriedByValue) = true from rfl)]
  unfold dictWalkPlain
  exact q_pure hq

/-- the dict's object, n times written -/
noncomputable def dO (es : List DictEntry) : Obj := { cls := .type "dict", data := .dict es.toArray es.length }
theorem dO_push (es : List DictEntry) (e : DictEntry) : Obj.mapDictKeys (·.push e) (dO es) = dO (es ++ [e]) := by
  unfold dO Obj.mapDictKeys
  simp
theorem get_update {h : Heap} {a : Addr} {f : Obj → Obj} {o o' : Obj} (ho : h.get? a = some o) (e : f o = o') (hf : ∀ c d s, o' ≠ ⟨c, d, .freed, s⟩) : (h.update a f).get? a = some o' := by
  obtain ⟨objs, l⟩ := h
  unfold Heap.get? at ho ⊢
  unfold Heap.update
  show (match (objs.modify a f)[a]? with | some ⟨_, _, .freed, _⟩ => none | o => o) = _
  have hx : objs[a]? = some o := by
    cases q : objs[a]? with
    | none => rw [q] at ho; cases ho
    | some z =>
      rw [q] at ho
      split at ho
      · cases ho
      · simpa using ho
  rw [Array.getElem?_modify, hx]
  simp only [if_true, Option.map_some, e]
  split
  · rename_i c d s q; simp at q; exact absurd q (hf _ _ _)
  · rfl
theorem dO_live (es : List DictEntry) : ∀ c d s, dO es ≠ ⟨c, d, .freed, s⟩ := by
  intro c d s e; unfold dO at e; cases e

theorem q_push {d : Addr} {p : Option Value} {es : List DictEntry} {e : DictEntry} {Q : Unit → Shared → Prop} (ha : m0 ≤ d) (ho : s.heap.get? d = some (dO es)) (hz : es.length < 10000)
    (h : Q () { s with heap := s.heap.update d (Obj.mapDictKeys (·.push e)) }) : QR w 3 s (updateDictKeys d (·.push e) p) Q := by
  unfold updateDictKeys
  refine q_then 1 (q_loadPart ho ?_)
  show QR w _ s (updatePart d p (Obj.mapDictKeys (·.push e)) >>= fun _ => lookBehind d p) Q
  refine q_then 1 (q_updatePart ha ho ?_)
  unfold lookBehind
  refine q_then 1 (q_loadPart (get_update ho (dO_push es e) (dO_live _)) ?_)
  have : (dO (es ++ [e])).data.pastItsLine = none := by
    unfold dO Data.pastItsLine
    simp only [List.size_toArray, List.length_append, List.length_cons, List.length_nil]
    rw [if_neg]
    rw [sizeLine_eq]; omega
  rw [this]
  exact q_pure h

noncomputable def dE (k : Int) (t : Tok) (x : Str) (u : Tok) : DictEntry := ⟨hashInt k, .int k t, .str x u⟩
theorem q_dictSet {d : Addr} {es : List DictEntry} {k : Int} {t : Tok} {x : Str} {u : Tok} {Q : Unit → Shared → Prop} (ha : m0 ≤ d) (ho : s.heap.get? d = some (dO es)) (hz : es.length < 10000)
    (hne : ∀ e ∈ es, e.hash ≠ hashInt k) (h : Q () { s with heap := s.heap.update d (Obj.mapDictKeys (·.push (dE k t x u))), toks := s.toks + 1 }) : QR w 30 s (dictSet d (.int k t) (.str x u)) Q := by
  unfold dictSet
  refine q_holding ?_
  refine q_then 20 (q_pyHash ?_)
  unfold dictSetHashed
  refine q_holding ?_
  refine q_then 1 (q_find_new ho rfl (fun e he => hne e (by simpa using he)) ?_)
  dsimp only
  refine q_then 1 (q_rule ?_)
  exact q_mono (q_push ha ho hz h) (by decide) fun _ _ x => x
theorem q_dictPut {d : Addr} {es : List DictEntry} {k : Int} {t : Tok} {x : Str} {u : Tok} {Q : Unit → Shared → Prop} (ha : m0 ≤ d) (ho : s.heap.get? d = some (dO es)) (hz : es.length < 10000)
    (hne : ∀ e ∈ es, e.hash ≠ hashInt k) (h : Q () { s with heap := s.heap.update d (Obj.mapDictKeys (·.push (dE k t x u))) }) : QR w 4 s (dictPut d (hashInt k) (.int k t) (.str x u)) Q := by
  unfold dictPut
  refine q_then 1 (q_find_new ho rfl (fun e he => hne e (by simpa using he)) ?_)
  dsimp only
  exact q_mono (q_push ha ho hz h) (by decide) fun _ _ x => x
end T55

end
section
open PySem PySem.W PyProof.Rows PySem.Calls
namespace T55
set_option maxRecDepth 20000
set_option linter.unusedVariables false
variable {w : World} {α β : Type} {n k : Nat} {s : Shared}

noncomputable def hp (b : List Obj) (life : Life) (l : List Obj) : Heap := ⟨(b ++ l).toArray, life⟩
theorem hp_size (b : List Obj) (life : Life) (l : List Obj) : (hp b life l).objs.size = b.length + l.length := by simp [hp]
theorem hp_push (b : List Obj) (life : Life) (l : List Obj) (o : Obj) : (hp b life l).push o = hp b life (l ++ [o]) := by simp [hp, Heap.push]
theorem hp_get {b : List Obj} {life : Life} {l : List Obj} {i : Nat} {es : List DictEntry} (h : l[i]? = some (dO es)) : (hp b life l).get? (b.length + i) = some (dO es) := by
  unfold Heap.get? hp
  have : (b ++ l).toArray[b.length + i]? = some (dO es) := by rw [List.getElem?_toArray, List.getElem?_append_right (Nat.le_add_right _ _), Nat.add_sub_cancel_left]; exact h
  show (match (b ++ l).toArray[b.length + i]? with | some ⟨_, _, .freed, _⟩ => none | o => o) = _
  rw [this]
  rfl
theorem modify_mid (f : Obj → Obj) (a : Obj) (post : List Obj) : ∀ l : List Obj, (l ++ a :: post).modify l.length f = l ++ f a :: post
  | [] => rfl
  | x :: l => by
    have := modify_mid f a post l
    simp [List.modify_succ_cons] at this ⊢
    exact this
theorem hp_upd {b : List Obj} {life : Life} {pre post : List Obj} {es : List DictEntry} {e : DictEntry} :
    (hp b life (pre ++ dO es :: post)).update (b.length + pre.length) (Obj.mapDictKeys (·.push e)) = hp b life (pre ++ dO (es ++ [e]) :: post) := by
  unfold hp Heap.update
  dsimp only
  simp only [← List.append_assoc]
  rw [show b.length + pre.length = (b ++ pre).length by simp]
  rw [← dO_push es e]
  refine congrArg (Heap.mk · life) ?_
  apply Array.ext'
  rw [Array.toList_modify]
  exact modify_mid _ _ _ _

noncomputable def IsK (w : World) (m : Sem Value) (k : Int) : Prop := ∀ (s : Shared) (Q : Value → Shared → Prop), Q (.int k s.toks) { s with toks := s.toks + 1 } → QR w 2 s m Q
noncomputable def IsV (w : World) (m : Sem Value) (x : Str) : Prop := ∀ (s : Shared) (Q : Value → Shared → Prop), Q (.str x s.toks) { s with toks := s.toks + 1 } → QR w 3 s m Q
noncomputable def IsPs (w : World) : List (Sem Value × Sem Value) → List (Int × Str) → Prop
  | [], [] => True
  | p :: ps, d :: ds => IsK w p.1 d.1 ∧ IsV w p.2 d.2 ∧ IsPs w ps ds
  | _, _ => False
noncomputable def ents (tk : Nat) : List (Int × Str) → List DictEntry
  | [] => []
  | d :: ds => dE d.1 tk d.2 (tk + 1) :: ents (tk + 3) ds
noncomputable def Inc : Int → List (Int × Str) → Prop
  | _, [] => True
  | lo, d :: ds => lo < d.1 ∧ d.1 < 1000000 ∧ Inc d.1 ds
noncomputable def lastK : Int → List (Int × Str) → Int
  | lo, [] => lo
  | _, d :: ds => lastK d.1 ds
theorem hash_small {k : Int} (h0 : 0 ≤ k) (h1 : k < 1000000) : hashInt k = k := by
  have hr : rawHash k = k := by
    simp only [rawHash]
    have e1 : ¬ k < 0 := by omega
    have e : k.natAbs % (2 ^ 61 - 1) = k.natAbs := Nat.mod_eq_of_lt (by omega)
    have e' : ((k.natAbs : Int) % ((2 ^ 61 - 1 : Nat) : Int)) = k := by
      rw [← Int.natCast_emod, e]; omega
    rw [if_neg e1]
    simp only [e', e]
    have e2 : (k == -1) = false := by rw [beq_eq_false_iff_ne]; omega
    simp [e2]
  unfold hashInt
  rw [hr]
  have e2 : (k == -1) = false := by rw [beq_eq_false_iff_ne]; omega
  simp [e2]
theorem Inc_app {lo : Int} {a b : List (Int × Str)} (h : Inc lo (a ++ b)) : Inc lo a ∧ Inc (lastK lo a) b := by
  induction a generalizing lo with
  | nil => exact ⟨trivial, h⟩
  | cons d ds ih => obtain ⟨h1, h2, h3⟩ := h; exact ⟨⟨h1, h2, (ih h3).1⟩, (ih h3).2⟩
theorem ents_length (tk : Nat) (ds : List (Int × Str)) : (ents tk ds).length = ds.length := by
  induction ds generalizing tk with
  | nil => rfl
  | cons d ds ih => simp [ents, ih]

theorem q_subLoop {b pre : List Obj} {life : Life} (hb : m0 ≤ b.length) {f : Sem Value × Sem Value → PUnit → Sem (ForInStep PUnit)}
    (hf : ∀ p u, f p u = (do let kv ← p.1; let vv ← holding [kv] p.2; holding [kv, vv] (dictSet (b.length + pre.length) kv vv); pure (ForInStep.yield PUnit.unit))) :
    ∀ (ps : List (Sem Value × Sem Value)) (ds : List (Int × Str)) (es : List DictEntry) (lo : Int) (s : Shared) (Q : PUnit → Shared → Prop), IsPs w ps ds → s.heap = hp b life (pre ++ [dO es]) →
      es.length + ds.length < 10000 → -1 ≤ lo → Inc lo ds → (∀ e ∈ es, e.hash ≤ lo) →
      Q PUnit.unit { s with heap := hp b life (pre ++ [dO (es ++ ents s.toks ds)]), toks := s.toks + 3 * ds.length } → QR w (40 * ds.length) s (forIn ps PUnit.unit f) Q
  | [], [], es, lo, s, Q, _, hs, hz, h0, hi, he, hq => by
    rw [List.forIn_nil]
    refine q_pure ?_
    simp only [ents, List.append_nil, ← hs] at hq
    exact hq
  | p :: ps, d :: ds, es, lo, s, Q, ⟨hk, hv, hps⟩, hs, hz, h0, ⟨i1, i2, i3⟩, he, hq => by
    rw [List.forIn_cons, hf]
    rw [List.length_cons] at hz
    have hsm : hashInt d.1 = d.1 := hash_small (by omega) i2
    refine q_mono (n := 36 + 40 * ds.length) ?_ (by rw [List.length_cons]; omega) fun _ _ x => x
    refine q_bind ?_
    refine q_then 2 (hk _ _ ?_)
    refine q_then 3 (q_holding (hv _ _ ?_))
    refine q_then 30 (q_holding ?_)
    refine q_dictSet (es := es) (Nat.le_trans hb (Nat.le_add_right _ _)) (by dsimp only; rw [hs]; exact hp_get (by simp)) (by omega) (fun e me => by rw [hsm]; have := he e me; omega) ?_
    refine q_pure ?_
    dsimp only
    rw [hs, hp_upd]
    refine q_subLoop hb hf ps ds (es ++ [dE d.1 s.toks d.2 (s.toks + 1)]) d.1 _ _ hps rfl (by simp; omega) (by omega) i3 ?_ ?_
    · intro e me
      rw [List.mem_append] at me
      rcases me with me | me
      · have := he e me; omega
      · simp at me; subst me; show hashInt d.1 ≤ d.1; rw [hsm]; exact Int.le_refl _
    · have : s.toks + 1 + 1 + 1 = s.toks + 3 := by omega
      dsimp only
      rw [this]
      simp only [ents, List.length_cons] at hq
      rw [List.append_assoc]
      have e3 : s.toks + 3 + 3 * ds.length = s.toks + 3 * (ds.length + 1) := by omega
      rw [e3]
      exact hq
  | [], _ :: _, _, _, _, _, h, _, _, _, _, _, _ => h.elim
  | _ :: _, [], _, _, _, _, h, _, _, _, _, _, _ => h.elim
end T55

end
section
open PySem PySem.W PyProof.Rows PySem.Calls
namespace T55
set_option maxRecDepth 20000
set_option linter.unusedVariables false
variable {w : World} {α β : Type} {n k : Nat} {s : Shared}

noncomputable def IncE : Int → List DictEntry → Prop
  | _, [] => True
  | lo, e :: es => (∃ k t x u, e = dE k t x u ∧ lo < k ∧ k < 1000000) ∧ IncE e.hash es
theorem IncE_ents : ∀ (ds : List (Int × Str)) (lo : Int) (tk : Nat), -1 ≤ lo → Inc lo ds → IncE lo (ents tk ds)
  | [], _, _, _, _ => trivial
  | d :: ds, lo, tk, h0, ⟨h1, h2, h3⟩ => by
    refine ⟨⟨d.1, _, d.2, _, rfl, h1, h2⟩, ?_⟩
    show IncE (hashInt d.1) _
    rw [hash_small (by omega) h2]
    exact IncE_ents ds d.1 (tk + 3) (by omega) h3

theorem q_mergeLoop {b mid : List Obj} {life : Life} (hb : m0 ≤ b.length) {S : List DictEntry} {f : Nat → PUnit → Sem (ForInStep PUnit)}
    (hf : ∀ i u, f i u = (do
      let __do_lift ← dictEntries (b.length + (1 + mid.length)) none
      match __do_lift[i]? with
      | some e => do
        holding [e.key, e.val] (dictPut b.length e.hash e.key e.val)
        let ep ← dictEpoch (b.length + (1 + mid.length)) none
        if (ep != S.length) = true then do
          let _ ← (unsupported "dict.changed-during-merge" : Sem PUnit)
          pure (ForInStep.yield PUnit.unit)
        else pure (ForInStep.yield PUnit.unit)
      | _ => do
        let _ ← (unsupported "dict.changed-during-merge" : Sem PUnit)
        pure (ForInStep.yield PUnit.unit))) :
    ∀ (m i : Nat) (es : List DictEntry) (lo : Int) (s : Shared) (Q : PUnit → Shared → Prop), i + m = S.length → s.heap = hp b life (dO es :: (mid ++ [dO S])) → es.length + m < 10000 → -1 ≤ lo → IncE lo (S.drop i) → (∀ e ∈ es, e.hash ≤ lo) →
      Q PUnit.unit { s with heap := hp b life (dO (es ++ S.drop i) :: (mid ++ [dO S])) } → QR w (10 * m) s (forIn (List.range' i m) PUnit.unit f) Q
  | 0, i, es, lo, s, Q, hm, hs, hz, h0, hi, he, hq => by
    rw [List.range'_zero, List.forIn_nil]
    refine q_pure ?_
    rw [List.drop_eq_nil_of_le (by omega), List.append_nil, ← hs] at hq
    exact hq
  | m + 1, i, es, lo, s, Q, hm, hs, hz, h0, hi, he, hq => by
    have hlt : i < S.length := by omega
    rw [List.range'_succ, List.forIn_cons, hf]
    rw [List.drop_eq_getElem_cons hlt] at hi hq
    obtain ⟨⟨kk, t, x, u, e1, i1, i2⟩, i3⟩ := hi
    have hsm : hashInt kk = kk := hash_small (by omega) i2
    have gS : ∀ (h : Heap) (o : List DictEntry), h = hp b life (dO o :: (mid ++ [dO S])) → h.get? (b.length + (1 + mid.length)) = some (dO S) := by
      rintro h o rfl
      refine hp_get ?_
      rw [Nat.add_comm 1, List.getElem?_cons_succ, List.getElem?_append_right (Nat.le_refl _), Nat.sub_self]; rfl
    refine q_mono (n := 9 + 10 * m) ?_ (by omega) fun _ _ x => x
    refine q_bind ?_
    refine q_then 1 (q_entries (gS _ _ hs) rfl ?_)
    have ge : (S.toArray)[i]? = some S[i] := by simp [hlt]
    rw [ge]
    dsimp only
    rw [e1]
    refine q_then 5 (q_holding ?_)
    refine q_mono (q_dictPut (s := s) (es := es) hb (by rw [hs]; exact hp_get (i := 0) rfl) (by omega) (fun e me => by rw [hsm]; have := he e me; omega) ?_) (by decide) fun _ _ x => x
    have up := hp_upd (b := b) (life := life) (pre := []) (post := mid ++ [dO S]) (es := es) (e := dE kk t x u)
    simp only [List.length_nil, Nat.add_zero, List.nil_append] at up
    rw [hs, up]
    refine q_then 1 (q_epoch (gS _ _ rfl) rfl ?_)
    show QR w _ _ (if (S.length != S.length) = true then _ else _) _
    rw [if_neg (by simp)]
    refine q_pure ?_
    dsimp only
    refine q_mergeLoop hb hf m (i + 1) (es ++ [dE kk t x u]) kk _ _ (by omega) rfl (by simp; omega) (by omega) ?_ ?_ ?_
    · rw [e1] at i3
      have : (dE kk t x u).hash = kk := hsm
      rw [this] at i3
      exact i3
    · intro e me
      rw [List.mem_append] at me
      rcases me with me | me
      · have := he e me; omega
      · simp at me; subst me; show hashInt kk ≤ kk; rw [hsm]; exact Int.le_refl _
    · rw [e1] at hq
      rw [List.append_assoc]
      exact hq

theorem q_merge {b mid : List Obj} {life : Life} (hb : m0 ≤ b.length) {S es : List DictEntry} {lo : Int} {Q : Unit → Shared → Prop} (hs : s.heap = hp b life (dO es :: (mid ++ [dO S]))) (hne : es ≠ []) (hz : es.length + S.length < 10000)
    (h0 : -1 ≤ lo) (hi : IncE lo S) (he : ∀ e ∈ es, e.hash ≤ lo) (hq : Q () { s with heap := hp b life (dO (es ++ S) :: (mid ++ [dO S])) }) :
    QR w (10 * S.length + 10) s (mergeMapping b.length (.ref (b.length + (1 + mid.length))) false) Q := by
  have gS : s.heap.get? (b.length + (1 + mid.length)) = some (dO S) := by
    rw [hs]
    refine hp_get ?_
    rw [Nat.add_comm 1, List.getElem?_cons_succ, List.getElem?_append_right (Nat.le_refl _), Nat.sub_self]; rfl
  have gE : s.heap.get? b.length = some (dO es) := by rw [hs]; exact hp_get (i := 0) rfl
  unfold mergeMapping
  have isI : QR w 1 s (isInstance (.ref (b.length + (1 + mid.length))) (.type "dict")) fun r s' => r = true ∧ s' = s := by
    unfold isInstance
    refine q_then 1 (q_then 1 (q_loadPart gS (q_pure ?_)))
    exact q_eq isSubtype_dict_dict (q_pure ⟨rfl, rfl⟩)
  have spI : QR w 1 s (specialOf (.ref (b.length + (1 + mid.length))) "__iter__") fun r s' => r = some (.builtin "dict.__iter__") ∧ s' = s := by
    unfold specialOf
    refine q_then 1 (q_then 1 (q_loadPart gS (q_pure ?_)))
    exact q_eq F.slot_dict_iter.lookup (q_pure ⟨rfl, rfl⟩)
  refine q_then 1 (q_mono isI (Nat.le_refl _) ?_) (by omega)
  rintro _ _ ⟨rfl, rfl⟩
  simp only [if_true]
  refine q_then 1 (q_mono spI (Nat.le_refl _) ?_) (by omega)
  rintro _ _ ⟨rfl, rfl⟩
  refine q_is (a := true) (by
    have : ((some (Value.builtin "dict.__iter__") == some (Value.builtin "dict.__iter__")) = true) := by simp
    rw [this]) ?_
  dsimp only
  have ns : ((b.length + (1 + mid.length) : Addr) == sysModules) = false := by
    rw [beq_eq_false_iff_ne]
    show b.length + (1 + mid.length) ≠ 1
    have : 11 ≤ b.length := hb
    omega
  rw [if_neg (by rw [ns]; exact Bool.false_ne_true)]
  refine q_then 1 (q_entries gE rfl ?_) (by omega)
  have em : es.toArray.isEmpty = false := by
    cases es with
    | nil => exact absurd rfl hne
    | cons x xs => rfl
  rw [if_neg (by rw [em]; exact Bool.false_ne_true)]
  refine q_then 1 (q_entries gS rfl ?_) (by omega)
  refine q_then 1 (q_epoch gS rfl ?_) (by omega)
  rw [List.size_toArray, List.range_eq_range']
  refine q_then (10 * S.length) ?_ (by omega)
  refine q_mergeLoop hb (S := S) (fun i u => rfl) S.length 0 es lo _ _ (by omega) hs hz h0 hi he ?_
  exact q_pure hq
end T55

end
section
open PySem PySem.W PyProof.Rows PySem.Calls
namespace T55
set_option maxRecDepth 20000
set_option linter.unusedVariables false
variable {w : World} {α β : Type} {n k : Nat} {s : Shared}

theorem IsPs.length : ∀ {ps : List (Sem Value × Sem Value)} {ds : List (Int × Str)}, IsPs w ps ds → ps.length = ds.length
  | [], [], _ => rfl
  | _ :: _, _ :: _, ⟨_, _, h⟩ => by rw [List.length_cons, List.length_cons, IsPs.length h]
  | [], _ :: _, h => h.elim
  | _ :: _, [], h => h.elim
theorem q_subDict {b pre : List Obj} {life : Life} (hb : m0 ≤ b.length) {ps : List (Sem Value × Sem Value)} {ds : List (Int × Str)} {lo : Int} {Q : Addr → Shared → Prop} (hp0 : IsPs w ps ds) (hs : s.heap = hp b life pre) (h17 : ds.length = 17) (h0 : -1 ≤ lo) (hi : Inc lo ds)
    (hq : Q (b.length + pre.length) { s with heap := hp b life (pre ++ [dO (ents s.toks ds)]), toks := s.toks + 51 }) : QR w 700 s (subDict ps) Q := by
  unfold subDict
  refine q_then 1 (q_alloc ?_)
  have hsz : s.heap.objs.size = b.length + pre.length := by rw [hs, hp_size]
  rw [hsz]
  refine q_then 690 (q_holding ?_)
  rw [if_neg (by rw [hp0.length]; omega)]
  refine q_then 1 (q_rule ?_)
  refine q_then (40 * ds.length) ?_ (by omega)
  refine q_subLoop (b := b) (pre := pre) (life := life) hb (fun p u => rfl) ps ds [] lo _ _ hp0 ?_ (by simp; omega) h0 hi (by simp) ?_
  · show s.heap.push _ = _
    rw [hs, hp_push]; rfl
  refine q_pure (q_pure ?_)
  simp only [List.nil_append]
  rw [h17]
  exact hq

-- the short one: first all keys and values, then the stores
noncomputable def vals2 (tk : Nat) : List (Int × Str) → List (Value × Value)
  | [] => []
  | d :: ds => (.int d.1 tk, .str d.2 (tk + 1)) :: vals2 (tk + 2) ds
noncomputable def ents2 (tk : Nat) : List (Int × Str) → List DictEntry
  | [] => []
  | d :: ds => dE d.1 tk d.2 (tk + 1) :: ents2 (tk + 2) ds
theorem q_evalPairs : ∀ (ps : List (Sem Value × Sem Value)) (ds : List (Int × Str)) (s : Shared) (Q : List (Value × Value) → Shared → Prop), IsPs w ps ds →
    Q (vals2 s.toks ds) { s with toks := s.toks + 2 * ds.length } → QR w (5 * ds.length) s (evalPairs ps) Q
  | [], [], s, Q, _, hq => q_pure hq
  | p :: ps, d :: ds, s, Q, ⟨hk, hv, hps⟩, hq => by
    rw [evalPairs]
    refine q_mono (n := 2 + (3 + (5 * ds.length))) ?_ (by rw [List.length_cons]; omega) fun _ _ x => x
    refine q_bind (hk _ _ (q_bind (q_holding (hv _ _ ?_))))
    refine q_then (5 * ds.length) (q_holding (q_evalPairs ps ds _ _ hps (q_pure ?_))) (Nat.le_refl _)
    dsimp only
    have e : s.toks + 1 + 1 + 2 * ds.length = s.toks + 2 * (ds.length + 1) := by omega
    rw [e]
    exact hq
  | [], _ :: _, _, _, h, _ => h.elim
  | _ :: _, [], _, _, h, _ => h.elim
theorem q_storeLoop {b pre : List Obj} {life : Life} (hb : m0 ≤ b.length) {f : Value × Value → PUnit → Sem (ForInStep PUnit)}
    (hf : ∀ p u, f p u = (do dictSet (b.length + pre.length) p.1 p.2; pure (ForInStep.yield PUnit.unit))) :
    ∀ (ds : List (Int × Str)) (tk : Nat) (es : List DictEntry) (lo : Int) (s : Shared) (Q : PUnit → Shared → Prop), s.heap = hp b life (pre ++ [dO es]) →
      es.length + ds.length < 10000 → -1 ≤ lo → Inc lo ds → (∀ e ∈ es, e.hash ≤ lo) →
      Q PUnit.unit { s with heap := hp b life (pre ++ [dO (es ++ ents2 tk ds)]), toks := s.toks + ds.length } → QR w (40 * ds.length) s (forIn (vals2 tk ds) PUnit.unit f) Q
  | [], tk, es, lo, s, Q, hs, hz, h0, hi, he, hq => by
    rw [vals2, List.forIn_nil]
    refine q_pure ?_
    simp only [ents2, List.append_nil, ← hs] at hq
    exact hq
  | d :: ds, tk, es, lo, s, Q, hs, hz, h0, ⟨i1, i2, i3⟩, he, hq => by
    rw [vals2, List.forIn_cons, hf]
    rw [List.length_cons] at hz
    have hsm : hashInt d.1 = d.1 := hash_small (by omega) i2
    refine q_mono (n := 36 + 40 * ds.length) ?_ (by rw [List.length_cons]; omega) fun _ _ x => x
    refine q_bind ?_
    refine q_then 30 ?_
    refine q_dictSet (es := es) (Nat.le_trans hb (Nat.le_add_right _ _)) (by rw [hs]; exact hp_get (by simp)) (by omega) (fun e me => by rw [hsm]; have := he e me; omega) ?_
    refine q_pure ?_
    dsimp only
    rw [hs, hp_upd]
    refine q_storeLoop hb hf ds (tk + 2) (es ++ [dE d.1 tk d.2 (tk + 1)]) d.1 _ _ rfl (by simp; omega) (by omega) i3 ?_ ?_
    · intro e me
      rw [List.mem_append] at me
      rcases me with me | me
      · have := he e me; omega
      · simp at me; subst me; show hashInt d.1 ≤ d.1; rw [hsm]; exact Int.le_refl _
    · dsimp only
      simp only [ents2, List.length_cons] at hq
      rw [List.append_assoc]
      have e3 : s.toks + 1 + ds.length = s.toks + (ds.length + 1) := by omega
      rw [e3]
      exact hq
theorem q_subDict2 {b pre : List Obj} {life : Life} (hb : m0 ≤ b.length) {ps : List (Sem Value × Sem Value)} {ds : List (Int × Str)} {lo : Int} {Q : Addr → Shared → Prop} (hp0 : IsPs w ps ds) (hs : s.heap = hp b life pre) (h15 : ds.length ≤ 15) (h0 : -1 ≤ lo) (hi : Inc lo ds)
    (hq : Q (b.length + pre.length) { s with heap := hp b life (pre ++ [dO (ents2 s.toks ds)]), toks := s.toks + 2 * ds.length + ds.length }) : QR w 700 s (subDict ps) Q := by
  unfold subDict
  refine q_then 1 (q_alloc ?_)
  have hsz : s.heap.objs.size = b.length + pre.length := by rw [hs, hp_size]
  rw [hsz]
  refine q_then 690 (q_holding ?_)
  rw [if_pos (by rw [hp0.length]; omega)]
  refine q_then (5 * ds.length) (q_evalPairs ps ds _ _ hp0 ?_) (by omega)
  refine q_holding ?_
  refine q_then (40 * ds.length) ?_ (by omega)
  refine q_storeLoop (b := b) (pre := pre) (life := life) hb (fun p u => rfl) ds s.toks [] lo _ _ ?_ (by simp; omega) h0 hi (by simp) ?_
  · show s.heap.push _ = _
    rw [hs, hp_push]; rfl
  refine q_pure (q_pure ?_)
  simp only [List.nil_append]
  exact hq
theorem IncE_ents2 : ∀ (ds : List (Int × Str)) (lo : Int) (tk : Nat), -1 ≤ lo → Inc lo ds → IncE lo (ents2 tk ds)
  | [], _, _, _, _ => trivial
  | d :: ds, lo, tk, h0, ⟨h1, h2, h3⟩ => by
    refine ⟨⟨d.1, _, d.2, _, rfl, h1, h2⟩, ?_⟩
    show IncE (hashInt d.1) _
    rw [hash_small (by omega) h2]
    exact IncE_ents2 ds d.1 (tk + 2) (by omega) h3
theorem ents_le : ∀ (ds : List (Int × Str)) (lo : Int) (tk : Nat), -1 ≤ lo → Inc lo ds → lo ≤ lastK lo ds ∧ ∀ e ∈ ents tk ds, e.hash ≤ lastK lo ds
  | [], lo, _, _, _ => ⟨Int.le_refl _, by simp [ents]⟩
  | d :: ds, lo, tk, h0, ⟨h1, h2, h3⟩ => by
    obtain ⟨a, b⟩ := ents_le ds d.1 (tk + 3) (by omega) h3
    refine ⟨?_, ?_⟩
    · show lo ≤ lastK d.1 ds
      omega
    · intro e he
      simp only [ents, List.mem_cons] at he
      rcases he with rfl | he
      · show hashInt d.1 ≤ lastK d.1 ds
        rw [hash_small (by omega) h2]; exact a
      · exact b e he
end T55

end
section
open PySem PySem.W PyProof.Rows PySem.Calls
namespace T55
set_option maxRecDepth 20000
set_option linter.unusedVariables false
variable {w : World} {α β : Type} {n k : Nat} {s : Shared}

noncomputable abbrev SP := Sem Value × Sem Value
noncomputable abbrev mkI (p : SP) : Option (Sem Value) × Sem Value := (some p.1, p.2)
section
variable {f : Option (Sem Value) × Sem Value → Option Addr × List SP → Sem (ForInStep (Option Addr × List SP))} {fl : List SP → Option Addr → Sem (Option Addr)}
  (hf : ∀ p main run, f (mkI p) (main, run) = if ((run ++ [p]).length == 17) = true then (do let m ← fl (run ++ [p]) main; pure (.yield (m, []))) else pure (.yield (main, run ++ [p])))
include hf
theorem gather_tail : ∀ (ps run : List SP) (main : Option Addr), run.length + ps.length < 17 → forIn (ps.map mkI) (main, run) f = pure (main, run ++ ps)
  | [], run, main, _ => by simp
  | p :: ps, run, main, h => by
    rw [List.map_cons, List.forIn_cons, hf, if_neg (by simp at h ⊢; omega), pure_bind]
    have := gather_tail ps (run ++ [p]) main (by simp at h ⊢; omega)
    simpa using this
theorem gather_block (rest : List SP) : ∀ (ps run : List SP) (main : Option Addr), run.length + ps.length = 17 → ps ≠ [] → forIn ((ps ++ rest).map mkI) (main, run) f = (do let m ← fl (run ++ ps) main; forIn (rest.map mkI) (m, []) f)
  | [], run, main, _, h => absurd rfl h
  | [p], run, main, h, _ => by
    rw [List.cons_append, List.map_cons, List.forIn_cons, hf, if_pos (by simp at h ⊢; omega), bind_assoc]
    rfl
  | p :: q :: ps, run, main, h, _ => by
    rw [List.cons_append, List.map_cons, List.forIn_cons, hf, if_neg (by simp at h ⊢; omega), pure_bind]
    have := gather_block rest (q :: ps) (run ++ [p]) main (by simp at h ⊢; omega) (by simp)
    rw [List.append_assoc] at this
    exact this
end

noncomputable def mainE : Nat → Nat → List (Int × Str) → List DictEntry → List DictEntry
  | 0, tk, ds, E => E ++ ents2 tk ds
  | m + 1, tk, ds, E => mainE m (tk + 51) (ds.drop 17) (E ++ ents tk (ds.take 17))
noncomputable def subsO : Nat → Nat → List (Int × Str) → List Obj
  | 0, tk, ds => [dO (ents2 tk ds)]
  | m + 1, tk, ds => dO (ents tk (ds.take 17)) :: subsO m (tk + 51) (ds.drop 17)
noncomputable def endT : Nat → Nat → List (Int × Str) → Nat
  | 0, tk, ds => tk + 2 * ds.length + ds.length
  | m + 1, tk, ds => endT m (tk + 51) (ds.drop 17)

theorem IsPs.split : ∀ (i : Nat) {ps : List SP} {ds : List (Int × Str)}, IsPs w ps ds → IsPs w (ps.take i) (ds.take i) ∧ IsPs w (ps.drop i) (ds.drop i)
  | 0, ps, ds, h => ⟨by simp [IsPs], by simpa using h⟩
  | i + 1, [], [], h => ⟨by simp [IsPs], by simp [IsPs]⟩
  | i + 1, p :: ps, d :: ds, ⟨h1, h2, h3⟩ => by
    obtain ⟨a, b⟩ := IsPs.split i h3
    exact ⟨⟨h1, h2, a⟩, b⟩
  | i + 1, [], _ :: _, h => h.elim
  | i + 1, _ :: _, [], h => h.elim

theorem q_flush {b mid : List Obj} {life : Life} (hb : m0 ≤ b.length) {H : Addr → Addr → Value → Sem Unit} {ps : List SP} {E S : List DictEntry} {lo : Int} {tk : Nat} {Q : Option Addr → Shared → Prop}
    (hs : s.heap = hp b life (dO E :: mid)) (hne : E ≠ []) (hz : E.length + S.length < 1000) (h17 : S.length ≤ 17) (h0 : -1 ≤ lo) (hi : IncE lo S) (he : ∀ e ∈ E, e.hash ≤ lo)
    (hsub : ∀ Q' : Addr → Shared → Prop, Q' (b.length + (1 + mid.length)) { s with heap := hp b life (dO E :: (mid ++ [dO S])), toks := tk } → QR w 700 s (subDict ps) Q')
    (hq : Q (some b.length) { s with heap := hp b life (dO (E ++ S) :: (mid ++ [dO S])), toks := tk }) :
    QR w 900 s (do
      let sub ← holding [.ref b.length] (subDict ps)
      (holding [.ref b.length, .ref sub] (mergeMapping b.length (.ref sub) false)).onRaise (H b.length sub)
      return some b.length) Q := by
  refine q_then 700 (q_holding (hsub _ ?_))
  refine q_then 190 (q_onRaise (q_holding ?_))
  refine q_mono (q_merge hb (lo := lo) (es := E) (S := S) rfl hne (by omega) h0 hi he ?_) (by omega) fun _ _ x => x
  exact q_pure hq

theorem q_blocks {b : List Obj} {life : Life} (hb : m0 ≤ b.length) {f : Option (Sem Value) × Sem Value → Option Addr × List SP → Sem (ForInStep (Option Addr × List SP))} {fl : List SP → Option Addr → Sem (Option Addr)}
    (hf : ∀ p main run, f (mkI p) (main, run) = if ((run ++ [p]).length == 17) = true then (do let m ← fl (run ++ [p]) main; pure (.yield (m, []))) else pure (.yield (main, run ++ [p])))
    {H : Addr → Addr → Value → Sem Unit}
    (hfl : ∀ run d, run ≠ [] → fl run (some d) = (do
      let sub ← holding [.ref d] (subDict run)
      (holding [.ref d, .ref sub] (mergeMapping d (.ref sub) false)).onRaise (H d sub)
      return some d))
    {g : Option Addr × List SP → Sem Value} (hg : ∀ main run, g (main, run) = (do match ← fl run main with | some d => pure (.ref d) | none => newDict)) :
    ∀ (m : Nat) (ds : List (Int × Str)) (ps : List SP) (E : List DictEntry) (mid : List Obj) (lo : Int) (s : Shared) (Q : Value → Shared → Prop), IsPs w ps ds → 17 * m < ds.length → ds.length ≤ 17 * m + 15 →
      s.heap = hp b life (dO E :: mid) → E ≠ [] → E.length + ds.length < 1000 → -1 ≤ lo → Inc lo ds → (∀ e ∈ E, e.hash ≤ lo) →
      Q (.ref b.length) { s with heap := hp b life (dO (mainE m s.toks ds E) :: (mid ++ subsO m s.toks ds)), toks := endT m s.toks ds } →
      QR w (900 * m + 900) s (forIn (ps.map mkI) (some b.length, []) f >>= g) Q
  | 0, ds, ps, E, mid, lo, s, Q, hps, h1, h2, hs, hne, hz, h0, hi, he, hq => by
    rw [gather_tail hf ps [] _ (by rw [hps.length]; simp; omega), pure_bind, hg, hfl _ _ (by
      intro e
      have := hps.length
      simp at e
      rw [e] at this; simp at this; omega)]
    refine q_then 900 ?_
    refine q_flush hb (S := ents2 s.toks ds) (lo := lo) (tk := s.toks + 2 * ds.length + ds.length) hs hne ?_ ?_ h0 (IncE_ents2 ds lo _ h0 hi) he (fun Q' q' => ?_) ?_
    · have : ∀ (ds : List (Int × Str)) tk, (ents2 tk ds).length = ds.length := by
        intro ds; induction ds with
        | nil => intro _; rfl
        | cons d ds ih => intro tk; simp [ents2, ih]
      rw [this]; omega
    · have : ∀ (ds : List (Int × Str)) tk, (ents2 tk ds).length = ds.length := by
        intro ds; induction ds with
        | nil => intro _; rfl
        | cons d ds ih => intro tk; simp [ents2, ih]
      rw [this]; omega
    · rw [List.nil_append]
      refine q_subDict2 (b := b) (pre := dO E :: mid) hb hps hs (by omega) h0 hi ?_
      simp only [List.length_cons, List.cons_append]
      rw [Nat.add_comm mid.length 1]
      exact q'
    · refine q_pure ?_
      exact hq
  | m + 1, ds, ps, E, mid, lo, s, Q, hps, h1, h2, hs, hne, hz, h0, hi, he, hq => by
    obtain ⟨p1, p2⟩ := hps.split 17
    have hl := hps.length
    have l17 : (ds.take 17).length = 17 := by rw [List.length_take]; omega
    have lp17 : (ps.take 17).length = 17 := by rw [List.length_take]; omega
    have hne17 : ps.take 17 ≠ [] := by intro e; rw [e] at lp17; cases lp17
    have ld : (ds.drop 17).length = ds.length - 17 := List.length_drop
    have hi' : Inc lo (ds.take 17 ++ ds.drop 17) := by rw [List.take_append_drop]; exact hi
    obtain ⟨i1, i2⟩ := Inc_app hi'
    obtain ⟨e1, e2⟩ := ents_le (ds.take 17) lo s.toks h0 i1
    rw [show ps = ps.take 17 ++ ps.drop 17 from (List.take_append_drop 17 ps).symm, gather_block hf _ _ _ _ (by rw [lp17]; rfl) hne17, bind_assoc, List.nil_append, hfl _ _ hne17]
    refine q_mono (n := 900 + (900 * m + 900)) ?_ (by omega) fun _ _ x => x
    refine q_bind ?_
    refine q_flush hb (S := ents s.toks (ds.take 17)) (lo := lo) (tk := s.toks + 51) hs hne (by rw [ents_length, l17]; omega) (by rw [ents_length, l17]; omega) h0 (IncE_ents _ lo _ h0 i1) he (fun Q' q' => ?_) ?_
    · refine q_subDict (b := b) (pre := dO E :: mid) hb p1 hs l17 h0 i1 ?_
      simp only [List.length_cons, List.cons_append]
      rw [Nat.add_comm mid.length 1]
      exact q'
    · refine q_blocks hb hf hfl hg m (ds.drop 17) (ps.drop 17) (E ++ ents s.toks (ds.take 17)) (mid ++ [dO (ents s.toks (ds.take 17))]) (lastK lo (ds.take 17)) _ _ p2 (by omega) (by omega) rfl (by simp [hne]) ?_ (by omega) i2 ?_ ?_
      · rw [List.length_append, ents_length, l17, ld]; omega
      · intro e me
        rw [List.mem_append] at me
        rcases me with me | me
        · have := he e me; omega
        · exact e2 e me
      · have q := hq
        simp only [mainE, subsO, endT] at q
        dsimp only
        rw [List.append_assoc]
        exact q

theorem q_display0 {b : List Obj} {life : Life} (hb : m0 ≤ b.length) {f : Option (Sem Value) × Sem Value → Option Addr × List SP → Sem (ForInStep (Option Addr × List SP))} {fl : List SP → Option Addr → Sem (Option Addr)}
    {H : Addr → Addr → Value → Sem Unit} {g : Option Addr × List SP → Sem Value} (m : Nat) {ds : List (Int × Str)} {ps : List SP} {Q : Value → Shared → Prop}
    (hf : ∀ p main run, f (mkI p) (main, run) = if ((run ++ [p]).length == 17) = true then (do let m ← fl (run ++ [p]) main; pure (.yield (m, []))) else pure (.yield (main, run ++ [p])))
    (hfn : ∀ run, run ≠ [] → fl run none = (do return some (← subDict run)))
    (hfl : ∀ run d, run ≠ [] → fl run (some d) = (do
      let sub ← holding [.ref d] (subDict run)
      (holding [.ref d, .ref sub] (mergeMapping d (.ref sub) false)).onRaise (H d sub)
      return some d))
    (hg : ∀ main run, g (main, run) = (do match ← fl run main with | some d => pure (.ref d) | none => newDict))
    (hps : IsPs w ps ds) (h1 : 17 * (m + 1) < ds.length) (h2 : ds.length ≤ 17 * (m + 1) + 15) (hs : s.heap = hp b life [])
    (hz : ds.length < 900) (hi : Inc (-1) ds)
    (hq : Q (.ref b.length) { s with heap := hp b life (dO (mainE m (s.toks + 51) (ds.drop 17) (ents s.toks (ds.take 17))) :: subsO m (s.toks + 51) (ds.drop 17)), toks := endT m (s.toks + 51) (ds.drop 17) }) :
    QR w (900 * m + 2000) s (forIn (ps.map mkI) (none, []) f >>= g) Q := by
  obtain ⟨p1, p2⟩ := hps.split 17
  have hl := hps.length
  have l17 : (ds.take 17).length = 17 := by rw [List.length_take]; omega
  have lp17 : (ps.take 17).length = 17 := by rw [List.length_take]; omega
  have hne17 : ps.take 17 ≠ [] := by intro e; rw [e] at lp17; cases lp17
  have ld : (ds.drop 17).length = ds.length - 17 := List.length_drop
  have hi' : Inc (-1) (ds.take 17 ++ ds.drop 17) := by rw [List.take_append_drop]; exact hi
  obtain ⟨i1, i2⟩ := Inc_app hi'
  obtain ⟨e1, e2⟩ := ents_le (ds.take 17) (-1) s.toks (by omega) i1
  rw [show ps = ps.take 17 ++ ps.drop 17 from (List.take_append_drop 17 ps).symm, gather_block hf _ _ _ _ (by rw [lp17]; rfl) hne17, bind_assoc, List.nil_append, hfn _ hne17]
  refine q_mono (n := 700 + (900 * m + 900)) ?_ (by omega) fun _ _ x => x
  refine q_bind (q_then 700 ?_)
  refine q_subDict (b := b) (pre := []) hb p1 hs l17 (by omega) i1 (q_pure ?_)
  refine q_blocks hb hf hfl hg m (ds.drop 17) (ps.drop 17) (ents s.toks (ds.take 17)) [] (lastK (-1) (ds.take 17)) _ _ p2 (by omega) (by omega) rfl ?_ ?_ (by omega) i2 e2 ?_
  · intro e
    have := congrArg List.length e
    rw [ents_length, l17] at this; cases this
  · rw [ents_length, l17, ld]; omega
  · exact hq

theorem q_display {b : List Obj} {life : Life} (hb : m0 ≤ b.length) (m : Nat) {ds : List (Int × Str)} {ps : List SP} {Q : Value → Shared → Prop} (hps : IsPs w ps ds) (h1 : 17 * (m + 1) < ds.length) (h2 : ds.length ≤ 17 * (m + 1) + 15) (hs : s.heap = hp b life [])
    (hz : ds.length < 900) (hi : Inc (-1) ds)
    (hq : Q (.ref b.length) { s with heap := hp b life (dO (mainE m (s.toks + 51) (ds.drop 17) (ents s.toks (ds.take 17))) :: subsO m (s.toks + 51) (ds.drop 17)), toks := endT m (s.toks + 51) (ds.drop 17) }) :
    QR w (900 * m + 2000) s (dictDisplay (ps.map mkI)) Q := by
  unfold dictDisplay
  refine q_display0 hb m (fl := fun run main => if run.isEmpty then pure main else match main with
    | none => do return some (← subDict run)
    | some d => do
      let sub ← holding [.ref d] (subDict run)
      (holding [.ref d, .ref sub] (mergeMapping d (.ref sub) false)).onRaise fun x => do let _ ← holding [.ref d, x] (runValue (.builtin "proto.let_go" {}))
      return some d)
    (H := fun d sub x => do let _ ← holding [.ref d, x] (runValue (.builtin "proto.let_go" {}))) (fun p main run => ?_) (fun run h => ?_) (fun run d h => ?_) (fun main run => ?_) hps h1 h2 hs hz hi hq
  · rfl
  · cases run with
    | nil => exact absurd rfl h
    | cons => rfl
  · cases run with
    | nil => exact absurd rfl h
    | cons => rfl
  · rfl

/-- the constants of a display -/
noncomputable def litOk : List (Option Expr) → List Expr → Option (List (Int × Str))
  | [], [] => some []
  | some (.Constant (.int k) _ _) :: ks, .Constant (.str x) _ _ :: vs => (litOk ks vs).map ((k, x) :: ·)
  | _, _ => none
theorem zip_litOk {env : Env} {pos : Pos} (ks : List (Option Expr)) (vs : List Expr) : ∀ {ds : List (Int × Str)}, litOk ks vs = some ds →
    ∃ ps : List SP, (evalEachOpt ks env).zip ((evalEach vs env).map fun v => do let x ← v; standAt pos; pure x) = ps.map mkI ∧ IsPs w ps ds := by
  induction ks, vs using litOk.induct with
  | case1 => intro ds h; simp [litOk] at h; subst h; exact ⟨[], rfl, trivial⟩
  | case2 k a b ks x c d vs ih =>
    intro ds h
    rw [litOk, Option.map_eq_some_iff] at h
    obtain ⟨ds', h', rfl⟩ := h
    obtain ⟨ps, e, hp⟩ := ih h'
    refine ⟨(mkInt k, do let x ← mkText x; standAt pos; pure x) :: ps, ?_, ?_, ?_, ?_⟩
    · show (some (eval (.Constant (.int k) a b) env), _) :: _ = _
      rw [List.map_cons, ← e]; rfl
    · intro s Q q
      exact q_then 1 (q_fresh (q_pure q))
    · intro s Q q
      refine q_then 1 (q_then 1 (q_fresh (q_pure ?_)))
      exact q_then 1 (q_stand (q_pure q))
    · exact hp
  | case3 ks vs h1 h2 => intro ds h; rw [litOk] at h; cases h; exact h1; exact h2
theorem q_Dict {b : List Obj} {life : Life} (hb : m0 ≤ b.length) (m : Nat) {ds : List (Int × Str)} {env : Env} {ks : List (Option Expr)} {vs : List Expr} {pos : Pos} {Q : Value → Shared → Prop} (hd : litOk ks vs = some ds) (h1 : 17 * (m + 1) < ds.length) (h2 : ds.length ≤ 17 * (m + 1) + 15)
    (hs : s.heap = hp b life []) (hz : ds.length < 900) (hi : Inc (-1) ds)
    (hq : Q (.ref b.length) { s with heap := hp b life (dO (mainE m (s.toks + 51) (ds.drop 17) (ents s.toks (ds.take 17))) :: subsO m (s.toks + 51) (ds.drop 17)), toks := endT m (s.toks + 51) (ds.drop 17) }) :
    QR w (900 * m + 2001) s (eval (.Dict ks vs pos) env) Q := by
  rw [arm_eval_Dict]
  obtain ⟨ps, e, hp⟩ := zip_litOk (w := w) (env := env) (pos := pos) ks vs hd
  refine q_then 1 (q_stand ?_) (by omega)
  rw [e]
  exact q_mono (q_display hb m hp h1 h2 hs hz hi hq) (by omega) fun _ _ x => x
end T55

end
section
open PySem PySem.W PyProof.Rows PySem.Calls
namespace T55
noncomputable section
set_option maxRecDepth 100000
set_option linter.unusedVariables false

noncomputable def en (P : Params) (x : Str) (t : Tok) (v : Value) : DictEntry := ⟨PyData.keyHash P x, .str x t, v⟩
noncomputable def argsOf (i : Nat) : Arguments := match HP.main.body[i]? with | some (.FunctionDef _ a ..) => a | _ => default
noncomputable def bodyOf (i : Nat) : List Stmt := match HP.main.body[i]? with | some (.FunctionDef _ _ b ..) => b | _ => []
noncomputable def scopeOf (i : Nat) : Scope := match HP.main.body[i]? with | some (.FunctionDef _ _ _ _ _ _ s ..) => s | _ => default
noncomputable def fnd (i : Nat) (name qual : Str) (globals : Addr) (m code : Value) : FuncData :=
  { name := name, qualname := qual, params := argsOf i, body := .stmts (bodyOf i), scope := scopeOf i, globals := globals, closure := [], defaults := .none, kwdefaults := .none, doc := .none, pyModule := m, annotations := none, code := code, closureTuple := .none, builtins := 0 }
noncomputable def keysOf : Stmt → List (Option Expr)
  | .Assign _ (.Dict ks _ _) _ => ks
  | _ => []
noncomputable def valsOf : Stmt → List Expr
  | .Assign _ (.Dict _ vs _) _ => vs
  | _ => []
noncomputable def stmtAt (i : Nat) : Stmt := (HP.main.body[i]?).getD (.Pass ⟨0, 0, 0, 0⟩)
noncomputable def b3keys : List (Option Expr) := keysOf (stmtAt 16)
noncomputable def b3vals : List Expr := valsOf (stmtAt 16)
noncomputable def b3ds : List (Int × Str) := (litOk b3keys b3vals).getD []
noncomputable def b3main : List DictEntry := mainE 37 384 (b3ds.drop 17) (ents 333 (b3ds.take 17))
noncomputable def b3sub (j : Nat) : Obj := ((subsO 37 384 (b3ds.drop 17))[j]?).getD default
noncomputable def oA11 (P : Params) : Obj := ⟨(.type "tuple"), none, .seq [].toArray 0, [].toArray⟩
noncomputable def oA12 (P : Params) : Obj := ⟨.none, none, .fields [].toArray, [].toArray⟩
noncomputable def oA13 (P : Params) : Obj := ⟨(.type "code"), none, .fields [.str ⟨#[60, 109, 111, 100, 117, 108, 101, 62]⟩ 182, .str ⟨#[60, 109, 111, 100, 117, 108, 101, 62]⟩ 183, .str ⟨#[47, 99, 108, 97, 105, 109, 47, 99, 117, 116, 46, 112, 121]⟩ 184, .int 1 0, .int 0 0, .int 0 0, .int 0 0, .int 0 0, .ref 11, .bool false, .int 181 0, .ref 12, .none, .none, .none, .none, .int 185 0, .int 1 0, .str ⟨#[47, 99, 108, 97, 105, 109, 47, 99, 117, 116, 46, 112, 121]⟩ 186].toArray, [].toArray⟩
noncomputable def oA14 (P : Params) : Obj := ⟨(.type "frame"), none, .plain, [some (.ref 13), some (.ref 3), some (.ref 3), none, some (.str ⟨#[95, 95, 109, 97, 105, 110, 95, 95]⟩ 164), none, some (.ref 0)].toArray⟩
noncomputable def TA (P : Params) : BT := (.node (boot_o_0 P) (.node (boot_o_1 P) (.node (boot_o_3 P) (.node (boot_o_7 P) .nil .nil) (.node (oA11 P) .nil .nil)) (.node (boot_o_5 P) (.node (boot_o_9 P) .nil .nil) (.node (oA13 P) .nil .nil))) (.node (boot_o_2 P) (.node (boot_o_4 P) (.node (boot_o_8 P) .nil .nil) (.node (oA12 P) .nil .nil)) (.node (boot_o_6 P) (.node (boot_o_10 P) .nil .nil) (.node (oA14 P) .nil .nil))))
noncomputable def TB (P : Params) : BT := (.node (boot_o_0 P) (.node (boot_o_1 P) (.node (boot_o_3 P) (.node (boot_o_7 P) .nil .nil) (.node (oA11 P) .nil .nil)) (.node (boot_o_5 P) (.node (boot_o_9 P) .nil .nil) (.node (oA13 P) .nil .nil))) (.node (boot_o_2 P) (.node (boot_o_4 P) (.node (boot_o_8 P) .nil .nil) (.node (oA12 P) .nil .nil)) (.node (boot_o_6 P) (.node (boot_o_10 P) .nil .nil) (.node (oA14 P) .nil .nil))))
noncomputable def oC3 (P : Params) : Obj := ⟨(.type "dict"), none, .dict [en P ⟨#[95, 95, 110, 97, 109, 101, 95, 95]⟩ 165 (.str ⟨#[99, 112, 121, 51, 49, 51, 46, 115, 116, 114, 105, 110, 103, 112, 114, 101, 112]⟩ 264), en P ⟨#[95, 95, 100, 111, 99, 95, 95]⟩ 166 .none, en P ⟨#[95, 95, 112, 97, 99, 107, 97, 103, 101, 95, 95]⟩ 167 .none, en P ⟨#[95, 95, 108, 111, 97, 100, 101, 114, 95, 95]⟩ 168 (.builtin "__main__.__loader__#opaque"), en P ⟨#[95, 95, 115, 112, 101, 99, 95, 95]⟩ 169 .none, en P ⟨#[95, 95, 97, 110, 110, 111, 116, 97, 116, 105, 111, 110, 115, 95, 95]⟩ 170 (.ref 6), en P ⟨#[95, 95, 98, 117, 105, 108, 116, 105, 110, 115, 95, 95]⟩ 171 (.ref 4), en P ⟨#[95, 95, 102, 105, 108, 101, 95, 95]⟩ 173 (.str ⟨#[47, 99, 108, 97, 105, 109, 47, 99, 117, 116, 46, 112, 121]⟩ 172), en P ⟨#[95, 95, 99, 97, 99, 104, 101, 100, 95, 95]⟩ 174 .none, en P ⟨#[95, 77, 65, 88, 95, 83, 84, 82, 73, 78, 71, 95, 83, 73, 90, 69]⟩ 190 (.int 40 189), en P ⟨#[95, 77, 79, 86, 69, 95, 67, 79, 83, 84]⟩ 192 (.int 2 191), en P ⟨#[95, 67, 65, 83, 69, 95, 67, 79, 83, 84]⟩ 194 (.int 1 193), en P ⟨#[95, 115, 117, 98, 115, 116, 105, 116, 117, 116, 105, 111, 110, 95, 99, 111, 115, 116]⟩ 202 (.ref 21), en P ⟨#[95, 108, 101, 118, 101, 110, 115, 104, 116, 101, 105, 110, 95, 100, 105, 115, 116, 97, 110, 99, 101]⟩ 222 (.ref 28), en P ⟨#[67, 72, 65, 82, 95, 77, 65, 88]⟩ 226 (.int 127 225), en P ⟨#[95, 103, 114, 111, 117, 112, 105, 110, 103, 95, 105, 110, 116, 101, 114, 118, 97, 108, 115]⟩ 235 (.ref 35), en P ⟨#[97, 100, 100]⟩ 245 (.ref 42), en P ⟨#[115, 117, 98]⟩ 253 (.ref 49), en P ⟨#[99, 111, 117, 110, 116, 79, 102]⟩ 263 (.ref 56)].toArray 19, [].toArray⟩
noncomputable def oC12 (P : Params) : Obj := ⟨.none, none, .fields [.int 5 0, .int 0 0, .ref 20, .int 11 0, .int 0 0, .ref 27, .int 51 0, .int 0 0, .ref 34, .int 64 0, .int 0 0, .ref 41, .int 66 0, .int 0 0, .ref 48, .int 68 0, .int 0 0, .ref 55].toArray, [].toArray⟩
noncomputable def oC15 (P : Params) : Obj := ⟨(.type "tuple"), none, .seq [].toArray 0, [].toArray⟩
noncomputable def oC16 (P : Params) : Obj := ⟨.none, none, .fields [].toArray, [].toArray⟩
noncomputable def oC17 (P : Params) : Obj := ⟨(.type "tuple"), none, .seq [.str ⟨#[99, 104, 95, 97]⟩ 198, .str ⟨#[99, 104, 95, 98]⟩ 199].toArray 0, [].toArray⟩
noncomputable def oC18 (P : Params) : Obj := ⟨(.type "tuple"), none, .seq [].toArray 0, [].toArray⟩
noncomputable def oC19 (P : Params) : Obj := ⟨.none, none, .func (fnd 4 ⟨#[95, 115, 117, 98, 115, 116, 105, 116, 117, 116, 105, 111, 110, 95, 99, 111, 115, 116]⟩ ⟨#[95, 115, 117, 98, 115, 116, 105, 116, 117, 116, 105, 111, 110, 95, 99, 111, 115, 116]⟩ 0 .none .none), [].toArray⟩
noncomputable def oC20 (P : Params) : Obj := ⟨(.type "code"), none, .fields [.str ⟨#[95, 115, 117, 98, 115, 116, 105, 116, 117, 116, 105, 111, 110, 95, 99, 111, 115, 116]⟩ 195, .str ⟨#[95, 115, 117, 98, 115, 116, 105, 116, 117, 116, 105, 111, 110, 95, 99, 111, 115, 116]⟩ 196, .str ⟨#[47, 99, 108, 97, 105, 109, 47, 99, 117, 116, 46, 112, 121]⟩ 197, .int 5 0, .int 2 0, .int 0 0, .int 0 0, .int 3 0, .ref 15, .bool true, .int 181 0, .ref 16, .none, .ref 17, .ref 18, .ref 19, .int 200 0, .int 5 0, .str ⟨#[47, 99, 108, 97, 105, 109, 47, 99, 117, 116, 46, 112, 121]⟩ 201].toArray, [].toArray⟩
noncomputable def oC21 (P : Params) : Obj := ⟨(.type "function"), none, .func (fnd 4 ⟨#[95, 115, 117, 98, 115, 116, 105, 116, 117, 116, 105, 111, 110, 95, 99, 111, 115, 116]⟩ ⟨#[95, 115, 117, 98, 115, 116, 105, 116, 117, 116, 105, 111, 110, 95, 99, 111, 115, 116]⟩ 3 (.str ⟨#[99, 112, 121, 51, 49, 51, 46, 116, 114, 97, 99, 101, 98, 97, 99, 107]⟩ 187) (.ref 20)), [].toArray⟩
noncomputable def oC22 (P : Params) : Obj := ⟨(.type "tuple"), none, .seq [].toArray 0, [].toArray⟩
noncomputable def oC23 (P : Params) : Obj := ⟨.none, none, .fields [].toArray, [].toArray⟩
noncomputable def oC24 (P : Params) : Obj := ⟨(.type "tuple"), none, .seq [.str ⟨#[97]⟩ 206, .str ⟨#[98]⟩ 207, .str ⟨#[109, 97, 120, 95, 99, 111, 115, 116]⟩ 208, .str ⟨#[112, 114, 101]⟩ 209, .str ⟨#[112, 111, 115, 116]⟩ 210, .str ⟨#[114, 111, 119]⟩ 211, .str ⟨#[114, 101, 115, 117, 108, 116]⟩ 212, .str ⟨#[98, 105, 110, 100, 101, 120]⟩ 213, .str ⟨#[98, 99, 104, 97, 114]⟩ 214, .str ⟨#[100, 105, 115, 116, 97, 110, 99, 101]⟩ 215, .str ⟨#[109, 105, 110, 105, 109, 117, 109]⟩ 216, .str ⟨#[105, 110, 100, 101, 120]⟩ 217, .str ⟨#[115, 117, 98, 115, 116, 105, 116, 117, 116, 101]⟩ 218, .str ⟨#[105, 110, 115, 101, 114, 116, 95, 100, 101, 108, 101, 116, 101]⟩ 219].toArray 0, [].toArray⟩
noncomputable def oC25 (P : Params) : Obj := ⟨(.type "tuple"), none, .seq [].toArray 0, [].toArray⟩
noncomputable def oC26 (P : Params) : Obj := ⟨.none, none, .func (fnd 5 ⟨#[95, 108, 101, 118, 101, 110, 115, 104, 116, 101, 105, 110, 95, 100, 105, 115, 116, 97, 110, 99, 101]⟩ ⟨#[95, 108, 101, 118, 101, 110, 115, 104, 116, 101, 105, 110, 95, 100, 105, 115, 116, 97, 110, 99, 101]⟩ 0 .none .none), [].toArray⟩
noncomputable def oC27 (P : Params) : Obj := ⟨(.type "code"), none, .fields [.str ⟨#[95, 108, 101, 118, 101, 110, 115, 104, 116, 101, 105, 110, 95, 100, 105, 115, 116, 97, 110, 99, 101]⟩ 203, .str ⟨#[95, 108, 101, 118, 101, 110, 115, 104, 116, 101, 105, 110, 95, 100, 105, 115, 116, 97, 110, 99, 101]⟩ 204, .str ⟨#[47, 99, 108, 97, 105, 109, 47, 99, 117, 116, 46, 112, 121]⟩ 205, .int 11 0, .int 3 0, .int 0 0, .int 0 0, .int 3 0, .ref 22, .bool true, .int 181 0, .ref 23, .none, .ref 24, .ref 25, .ref 26, .int 220 0, .int 11 0, .str ⟨#[47, 99, 108, 97, 105, 109, 47, 99, 117, 116, 46, 112, 121]⟩ 221].toArray, [].toArray⟩
noncomputable def oC28 (P : Params) : Obj := ⟨(.type "function"), none, .func (fnd 5 ⟨#[95, 108, 101, 118, 101, 110, 115, 104, 116, 101, 105, 110, 95, 100, 105, 115, 116, 97, 110, 99, 101]⟩ ⟨#[95, 108, 101, 118, 101, 110, 115, 104, 116, 101, 105, 110, 95, 100, 105, 115, 116, 97, 110, 99, 101]⟩ 3 (.str ⟨#[99, 112, 121, 51, 49, 51, 46, 116, 114, 97, 99, 101, 98, 97, 99, 107]⟩ 187) (.ref 27)), [].toArray⟩
noncomputable def oC29 (P : Params) : Obj := ⟨(.type "tuple"), none, .seq [].toArray 0, [].toArray⟩
noncomputable def oC30 (P : Params) : Obj := ⟨.none, none, .fields [].toArray, [].toArray⟩
noncomputable def oC31 (P : Params) : Obj := ⟨(.type "tuple"), none, .seq [.str ⟨#[103, 114, 111, 117, 112, 105, 110, 103]⟩ 230, .str ⟨#[108, 97, 115, 116, 95, 105, 110, 116, 101, 114, 118, 97, 108]⟩ 231, .str ⟨#[105, 110, 116, 101, 114, 118, 97, 108]⟩ 232].toArray 0, [].toArray⟩
noncomputable def oC32 (P : Params) : Obj := ⟨(.type "tuple"), none, .seq [].toArray 0, [].toArray⟩
noncomputable def oC33 (P : Params) : Obj := ⟨.none, none, .func (fnd 8 ⟨#[95, 103, 114, 111, 117, 112, 105, 110, 103, 95, 105, 110, 116, 101, 114, 118, 97, 108, 115]⟩ ⟨#[95, 103, 114, 111, 117, 112, 105, 110, 103, 95, 105, 110, 116, 101, 114, 118, 97, 108, 115]⟩ 0 .none .none), [].toArray⟩
noncomputable def oC34 (P : Params) : Obj := ⟨(.type "code"), none, .fields [.str ⟨#[95, 103, 114, 111, 117, 112, 105, 110, 103, 95, 105, 110, 116, 101, 114, 118, 97, 108, 115]⟩ 227, .str ⟨#[95, 103, 114, 111, 117, 112, 105, 110, 103, 95, 105, 110, 116, 101, 114, 118, 97, 108, 115]⟩ 228, .str ⟨#[47, 99, 108, 97, 105, 109, 47, 99, 117, 116, 46, 112, 121]⟩ 229, .int 51 0, .int 1 0, .int 0 0, .int 0 0, .int 35 0, .ref 29, .bool true, .int 181 0, .ref 30, .none, .ref 31, .ref 32, .ref 33, .int 233 0, .int 51 0, .str ⟨#[47, 99, 108, 97, 105, 109, 47, 99, 117, 116, 46, 112, 121]⟩ 234].toArray, [].toArray⟩
noncomputable def oC35 (P : Params) : Obj := ⟨(.type "function"), none, .func (fnd 8 ⟨#[95, 103, 114, 111, 117, 112, 105, 110, 103, 95, 105, 110, 116, 101, 114, 118, 97, 108, 115]⟩ ⟨#[95, 103, 114, 111, 117, 112, 105, 110, 103, 95, 105, 110, 116, 101, 114, 118, 97, 108, 115]⟩ 3 (.str ⟨#[99, 112, 121, 51, 49, 51, 46, 108, 111, 99, 97, 108, 101]⟩ 223) (.ref 34)), [].toArray⟩
noncomputable def oC36 (P : Params) : Obj := ⟨(.type "tuple"), none, .seq [].toArray 0, [].toArray⟩
noncomputable def oC37 (P : Params) : Obj := ⟨.none, none, .fields [].toArray, [].toArray⟩
noncomputable def oC38 (P : Params) : Obj := ⟨(.type "tuple"), none, .seq [.str ⟨#[97]⟩ 241, .str ⟨#[98]⟩ 242].toArray 0, [].toArray⟩
noncomputable def oC39 (P : Params) : Obj := ⟨(.type "tuple"), none, .seq [].toArray 0, [].toArray⟩
noncomputable def oC40 (P : Params) : Obj := ⟨.none, none, .func (fnd 10 ⟨#[97, 100, 100]⟩ ⟨#[97, 100, 100]⟩ 0 .none .none), [].toArray⟩
noncomputable def oC41 (P : Params) : Obj := ⟨(.type "code"), none, .fields [.str ⟨#[97, 100, 100]⟩ 238, .str ⟨#[97, 100, 100]⟩ 239, .str ⟨#[47, 99, 108, 97, 105, 109, 47, 99, 117, 116, 46, 112, 121]⟩ 240, .int 64 0, .int 2 0, .int 0 0, .int 0 0, .int 3 0, .ref 36, .bool true, .int 181 0, .ref 37, .none, .ref 38, .ref 39, .ref 40, .int 243 0, .int 64 0, .str ⟨#[47, 99, 108, 97, 105, 109, 47, 99, 117, 116, 46, 112, 121]⟩ 244].toArray, [].toArray⟩
noncomputable def oC42 (P : Params) : Obj := ⟨(.type "function"), none, .func (fnd 10 ⟨#[97, 100, 100]⟩ ⟨#[97, 100, 100]⟩ 3 (.str ⟨#[99, 112, 121, 51, 49, 51, 46, 111, 112, 101, 114, 97, 116, 111, 114]⟩ 236) (.ref 41)), [].toArray⟩
noncomputable def oC43 (P : Params) : Obj := ⟨(.type "tuple"), none, .seq [].toArray 0, [].toArray⟩
noncomputable def oC44 (P : Params) : Obj := ⟨.none, none, .fields [].toArray, [].toArray⟩
noncomputable def oC45 (P : Params) : Obj := ⟨(.type "tuple"), none, .seq [.str ⟨#[97]⟩ 249, .str ⟨#[98]⟩ 250].toArray 0, [].toArray⟩
noncomputable def oC46 (P : Params) : Obj := ⟨(.type "tuple"), none, .seq [].toArray 0, [].toArray⟩
noncomputable def oC47 (P : Params) : Obj := ⟨.none, none, .func (fnd 11 ⟨#[115, 117, 98]⟩ ⟨#[115, 117, 98]⟩ 0 .none .none), [].toArray⟩
noncomputable def oC48 (P : Params) : Obj := ⟨(.type "code"), none, .fields [.str ⟨#[115, 117, 98]⟩ 246, .str ⟨#[115, 117, 98]⟩ 247, .str ⟨#[47, 99, 108, 97, 105, 109, 47, 99, 117, 116, 46, 112, 121]⟩ 248, .int 66 0, .int 2 0, .int 0 0, .int 0 0, .int 3 0, .ref 43, .bool true, .int 181 0, .ref 44, .none, .ref 45, .ref 46, .ref 47, .int 251 0, .int 66 0, .str ⟨#[47, 99, 108, 97, 105, 109, 47, 99, 117, 116, 46, 112, 121]⟩ 252].toArray, [].toArray⟩
noncomputable def oC49 (P : Params) : Obj := ⟨(.type "function"), none, .func (fnd 11 ⟨#[115, 117, 98]⟩ ⟨#[115, 117, 98]⟩ 3 (.str ⟨#[99, 112, 121, 51, 49, 51, 46, 111, 112, 101, 114, 97, 116, 111, 114]⟩ 236) (.ref 48)), [].toArray⟩
noncomputable def oC50 (P : Params) : Obj := ⟨(.type "tuple"), none, .seq [].toArray 0, [].toArray⟩
noncomputable def oC51 (P : Params) : Obj := ⟨.none, none, .fields [].toArray, [].toArray⟩
noncomputable def oC52 (P : Params) : Obj := ⟨(.type "tuple"), none, .seq [.str ⟨#[97]⟩ 257, .str ⟨#[98]⟩ 258, .str ⟨#[99, 111, 117, 110, 116]⟩ 259, .str ⟨#[105]⟩ 260].toArray 0, [].toArray⟩
noncomputable def oC53 (P : Params) : Obj := ⟨(.type "tuple"), none, .seq [].toArray 0, [].toArray⟩
noncomputable def oC54 (P : Params) : Obj := ⟨.none, none, .func (fnd 12 ⟨#[99, 111, 117, 110, 116, 79, 102]⟩ ⟨#[99, 111, 117, 110, 116, 79, 102]⟩ 0 .none .none), [].toArray⟩
noncomputable def oC55 (P : Params) : Obj := ⟨(.type "code"), none, .fields [.str ⟨#[99, 111, 117, 110, 116, 79, 102]⟩ 254, .str ⟨#[99, 111, 117, 110, 116, 79, 102]⟩ 255, .str ⟨#[47, 99, 108, 97, 105, 109, 47, 99, 117, 116, 46, 112, 121]⟩ 256, .int 68 0, .int 2 0, .int 0 0, .int 0 0, .int 3 0, .ref 50, .bool true, .int 181 0, .ref 51, .none, .ref 52, .ref 53, .ref 54, .int 261 0, .int 68 0, .str ⟨#[47, 99, 108, 97, 105, 109, 47, 99, 117, 116, 46, 112, 121]⟩ 262].toArray, [].toArray⟩
noncomputable def oC56 (P : Params) : Obj := ⟨(.type "function"), none, .func (fnd 12 ⟨#[99, 111, 117, 110, 116, 79, 102]⟩ ⟨#[99, 111, 117, 110, 116, 79, 102]⟩ 3 (.str ⟨#[99, 112, 121, 51, 49, 51, 46, 111, 112, 101, 114, 97, 116, 111, 114]⟩ 236) (.ref 55)), [].toArray⟩
noncomputable def TC (P : Params) : BT := (.node (boot_o_0 P) (.node (boot_o_1 P) (.node (oC3 P) (.node (boot_o_7 P) (.node (oC15 P) (.node (oC31 P) .nil .nil) (.node (oC47 P) .nil .nil)) (.node (oC23 P) (.node (oC39 P) .nil .nil) (.node (oC55 P) .nil .nil))) (.node (oA11 P) (.node (oC19 P) (.node (oC35 P) .nil .nil) (.node (oC51 P) .nil .nil)) (.node (oC27 P) (.node (oC43 P) .nil .nil) .nil))) (.node (boot_o_5 P) (.node (boot_o_9 P) (.node (oC17 P) (.node (oC33 P) .nil .nil) (.node (oC49 P) .nil .nil)) (.node (oC25 P) (.node (oC41 P) .nil .nil) .nil)) (.node (oA13 P) (.node (oC21 P) (.node (oC37 P) .nil .nil) (.node (oC53 P) .nil .nil)) (.node (oC29 P) (.node (oC45 P) .nil .nil) .nil)))) (.node (boot_o_2 P) (.node (boot_o_4 P) (.node (boot_o_8 P) (.node (oC16 P) (.node (oC32 P) .nil .nil) (.node (oC48 P) .nil .nil)) (.node (oC24 P) (.node (oC40 P) .nil .nil) (.node (oC56 P) .nil .nil))) (.node (oC12 P) (.node (oC20 P) (.node (oC36 P) .nil .nil) (.node (oC52 P) .nil .nil)) (.node (oC28 P) (.node (oC44 P) .nil .nil) .nil))) (.node (boot_o_6 P) (.node (boot_o_10 P) (.node (oC18 P) (.node (oC34 P) .nil .nil) (.node (oC50 P) .nil .nil)) (.node (oC26 P) (.node (oC42 P) .nil .nil) .nil)) (.node (oA14 P) (.node (oC22 P) (.node (oC38 P) .nil .nil) (.node (oC54 P) .nil .nil)) (.node (oC30 P) (.node (oC46 P) .nil .nil) .nil)))))
noncomputable def oD3 (P : Params) : Obj := ⟨(.type "dict"), none, .dict [en P ⟨#[95, 95, 110, 97, 109, 101, 95, 95]⟩ 165 (.str ⟨#[99, 112, 121, 51, 49, 51, 46, 115, 116, 114, 105, 110, 103, 112, 114, 101, 112]⟩ 264), en P ⟨#[95, 95, 100, 111, 99, 95, 95]⟩ 166 .none, en P ⟨#[95, 95, 112, 97, 99, 107, 97, 103, 101, 95, 95]⟩ 167 .none, en P ⟨#[95, 95, 108, 111, 97, 100, 101, 114, 95, 95]⟩ 168 (.builtin "__main__.__loader__#opaque"), en P ⟨#[95, 95, 115, 112, 101, 99, 95, 95]⟩ 169 .none, en P ⟨#[95, 95, 97, 110, 110, 111, 116, 97, 116, 105, 111, 110, 115, 95, 95]⟩ 170 (.ref 6), en P ⟨#[95, 95, 98, 117, 105, 108, 116, 105, 110, 115, 95, 95]⟩ 171 (.ref 4), en P ⟨#[95, 95, 102, 105, 108, 101, 95, 95]⟩ 173 (.str ⟨#[47, 99, 108, 97, 105, 109, 47, 99, 117, 116, 46, 112, 121]⟩ 172), en P ⟨#[95, 95, 99, 97, 99, 104, 101, 100, 95, 95]⟩ 174 .none, en P ⟨#[95, 77, 65, 88, 95, 83, 84, 82, 73, 78, 71, 95, 83, 73, 90, 69]⟩ 190 (.int 40 189), en P ⟨#[95, 77, 79, 86, 69, 95, 67, 79, 83, 84]⟩ 192 (.int 2 191), en P ⟨#[95, 67, 65, 83, 69, 95, 67, 79, 83, 84]⟩ 194 (.int 1 193), en P ⟨#[95, 115, 117, 98, 115, 116, 105, 116, 117, 116, 105, 111, 110, 95, 99, 111, 115, 116]⟩ 202 (.ref 21), en P ⟨#[95, 108, 101, 118, 101, 110, 115, 104, 116, 101, 105, 110, 95, 100, 105, 115, 116, 97, 110, 99, 101]⟩ 222 (.ref 28), en P ⟨#[67, 72, 65, 82, 95, 77, 65, 88]⟩ 226 (.int 127 225), en P ⟨#[95, 103, 114, 111, 117, 112, 105, 110, 103, 95, 105, 110, 116, 101, 114, 118, 97, 108, 115]⟩ 235 (.ref 35), en P ⟨#[97, 100, 100]⟩ 245 (.ref 42), en P ⟨#[115, 117, 98]⟩ 253 (.ref 49), en P ⟨#[99, 111, 117, 110, 116, 79, 102]⟩ 263 (.ref 56), en P ⟨#[98, 49, 95, 115, 101, 116]⟩ 325 (.ref 64)].toArray 20, [].toArray⟩
noncomputable def oD57 (P : Params) : Obj := ⟨(.type "list"), none, .seq [.int 173 266, .int 847 267, .int 6150 268, .int 6155 269, .int 6156 270, .int 6157 271, .int 8203 272, .int 8204 273, .int 8205 274, .int 8288 275, .int 65279 276].toArray 0, [].toArray⟩
noncomputable def oD58 (P : Params) : Obj := ⟨(.type "range"), none, .fields [.int 65024 277, .int 65040 278, .int 1 279].toArray, [].toArray⟩
noncomputable def oD59 (P : Params) : Obj := ⟨(.type "list"), none, .seq [.int 65024 282, .int 65025 283, .int 65026 284, .int 65027 285, .int 65028 286, .int 65029 287, .int 65030 288, .int 65031 289, .int 65032 290, .int 65033 291, .int 65034 292, .int 65035 293, .int 65036 294, .int 65037 295, .int 65038 296, .int 65039 297].toArray 18, [].toArray⟩
noncomputable def oD60 (P : Params) : Obj := ⟨(.type "range_iterator"), none, .fields [.int 65040 0, .int 0 0, .int 1 0].toArray, [].toArray⟩
noncomputable def oD61 (P : Params) : Obj := ⟨(.type "tuple"), none, .seq [].toArray 0, [].toArray⟩
noncomputable def oD62 (P : Params) : Obj := ⟨(.type "StopIteration"), none, .fields [.ref 61, .none, .none, .none, .bool false, .none].toArray, [].toArray⟩
noncomputable def oD63 (P : Params) : Obj := ⟨(.type "list"), none, .seq [.int 173 266, .int 847 267, .int 6150 268, .int 6155 269, .int 6156 270, .int 6157 271, .int 8203 272, .int 8204 273, .int 8205 274, .int 8288 275, .int 65279 276, .int 65024 282, .int 65025 283, .int 65026 284, .int 65027 285, .int 65028 286, .int 65029 287, .int 65030 288, .int 65031 289, .int 65032 290, .int 65033 291, .int 65034 292, .int 65035 293, .int 65036 294, .int 65037 295, .int 65038 296, .int 65039 297].toArray 0, [].toArray⟩
noncomputable def oD64 (P : Params) : Obj := ⟨(.type "set"), none, .set [(65024, .int 65024 282), (65025, .int 65025 283), (65026, .int 65026 284), (65027, .int 65027 285), (65028, .int 65028 286), (65029, .int 65029 287), (6150, .int 6150 268), (65030, .int 65030 288), (65031, .int 65031 289), (65032, .int 65032 290), (65033, .int 65033 291), (6155, .int 6155 269), (6156, .int 6156 270), (6157, .int 6157 271), (8203, .int 8203 272), (8204, .int 8204 273), (8205, .int 8205 274), (65034, .int 65034 292), (65035, .int 65035 293), (65036, .int 65036 294), (65037, .int 65037 295), (65038, .int 65038 296), (65039, .int 65039 297), (173, .int 173 266), (847, .int 847 267), (8288, .int 8288 275), (65279, .int 65279 276)].toArray 29 ⟨127, [0, 1, 2, 3, 4, 5, 6, 7, 8, 9, 10, 11, 12, 13, 14, 15, 16, 17, 18, 19, 20, 21, 22, 45, 79, 96, 127].toArray, [].toArray, 0, !P.followText "set-order", 2, true⟩, [].toArray⟩
noncomputable def oD65 (P : Params) : Obj := ⟨(.type "list_iterator"), none, .fields [.none, .int 27 0].toArray, [].toArray⟩
noncomputable def oD66 (P : Params) : Obj := ⟨(.type "tuple"), none, .seq [].toArray 0, [].toArray⟩
noncomputable def oD67 (P : Params) : Obj := ⟨(.type "StopIteration"), none, .fields [.ref 66, .none, .none, .none, .bool false, .none].toArray, [].toArray⟩
noncomputable def TD (P : Params) : BT := (.node (boot_o_0 P) (.node (boot_o_1 P) (.node (oD3 P) (.node (boot_o_7 P) (.node (oC15 P) (.node (oC31 P) (.node (oD63 P) .nil .nil) .nil) (.node (oC47 P) .nil .nil)) (.node (oC23 P) (.node (oC39 P) .nil .nil) (.node (oC55 P) .nil .nil))) (.node (oA11 P) (.node (oC19 P) (.node (oC35 P) (.node (oD67 P) .nil .nil) .nil) (.node (oC51 P) .nil .nil)) (.node (oC27 P) (.node (oC43 P) .nil .nil) (.node (oD59 P) .nil .nil)))) (.node (boot_o_5 P) (.node (boot_o_9 P) (.node (oC17 P) (.node (oC33 P) (.node (oD65 P) .nil .nil) .nil) (.node (oC49 P) .nil .nil)) (.node (oC25 P) (.node (oC41 P) .nil .nil) (.node (oD57 P) .nil .nil))) (.node (oA13 P) (.node (oC21 P) (.node (oC37 P) .nil .nil) (.node (oC53 P) .nil .nil)) (.node (oC29 P) (.node (oC45 P) .nil .nil) (.node (oD61 P) .nil .nil))))) (.node (boot_o_2 P) (.node (boot_o_4 P) (.node (boot_o_8 P) (.node (oC16 P) (.node (oC32 P) (.node (oD64 P) .nil .nil) .nil) (.node (oC48 P) .nil .nil)) (.node (oC24 P) (.node (oC40 P) .nil .nil) (.node (oC56 P) .nil .nil))) (.node (oC12 P) (.node (oC20 P) (.node (oC36 P) .nil .nil) (.node (oC52 P) .nil .nil)) (.node (oC28 P) (.node (oC44 P) .nil .nil) (.node (oD60 P) .nil .nil)))) (.node (boot_o_6 P) (.node (boot_o_10 P) (.node (oC18 P) (.node (oC34 P) (.node (oD66 P) .nil .nil) .nil) (.node (oC50 P) .nil .nil)) (.node (oC26 P) (.node (oC42 P) .nil .nil) (.node (oD58 P) .nil .nil))) (.node (oA14 P) (.node (oC22 P) (.node (oC38 P) .nil .nil) (.node (oC54 P) .nil .nil)) (.node (oC30 P) (.node (oC46 P) .nil .nil) (.node (oD62 P) .nil .nil))))))
noncomputable def oE3 (P : Params) : Obj := ⟨(.type "dict"), none, .dict [en P ⟨#[95, 95, 110, 97, 109, 101, 95, 95]⟩ 165 (.str ⟨#[99, 112, 121, 51, 49, 51, 46, 115, 116, 114, 105, 110, 103, 112, 114, 101, 112]⟩ 264), en P ⟨#[95, 95, 100, 111, 99, 95, 95]⟩ 166 .none, en P ⟨#[95, 95, 112, 97, 99, 107, 97, 103, 101, 95, 95]⟩ 167 .none, en P ⟨#[95, 95, 108, 111, 97, 100, 101, 114, 95, 95]⟩ 168 (.builtin "__main__.__loader__#opaque"), en P ⟨#[95, 95, 115, 112, 101, 99, 95, 95]⟩ 169 .none, en P ⟨#[95, 95, 97, 110, 110, 111, 116, 97, 116, 105, 111, 110, 115, 95, 95]⟩ 170 (.ref 6), en P ⟨#[95, 95, 98, 117, 105, 108, 116, 105, 110, 115, 95, 95]⟩ 171 (.ref 4), en P ⟨#[95, 95, 102, 105, 108, 101, 95, 95]⟩ 173 (.str ⟨#[47, 99, 108, 97, 105, 109, 47, 99, 117, 116, 46, 112, 121]⟩ 172), en P ⟨#[95, 95, 99, 97, 99, 104, 101, 100, 95, 95]⟩ 174 .none, en P ⟨#[95, 77, 65, 88, 95, 83, 84, 82, 73, 78, 71, 95, 83, 73, 90, 69]⟩ 190 (.int 40 189), en P ⟨#[95, 77, 79, 86, 69, 95, 67, 79, 83, 84]⟩ 192 (.int 2 191), en P ⟨#[95, 67, 65, 83, 69, 95, 67, 79, 83, 84]⟩ 194 (.int 1 193), en P ⟨#[95, 115, 117, 98, 115, 116, 105, 116, 117, 116, 105, 111, 110, 95, 99, 111, 115, 116]⟩ 202 (.ref 21), en P ⟨#[95, 108, 101, 118, 101, 110, 115, 104, 116, 101, 105, 110, 95, 100, 105, 115, 116, 97, 110, 99, 101]⟩ 222 (.ref 28), en P ⟨#[67, 72, 65, 82, 95, 77, 65, 88]⟩ 226 (.int 127 225), en P ⟨#[95, 103, 114, 111, 117, 112, 105, 110, 103, 95, 105, 110, 116, 101, 114, 118, 97, 108, 115]⟩ 235 (.ref 35), en P ⟨#[97, 100, 100]⟩ 245 (.ref 42), en P ⟨#[115, 117, 98]⟩ 253 (.ref 49), en P ⟨#[99, 111, 117, 110, 116, 79, 102]⟩ 263 (.ref 56), en P ⟨#[98, 49, 95, 115, 101, 116]⟩ 325 (.ref 64), en P ⟨#[105, 110, 95, 116, 97, 98, 108, 101, 95, 98, 49]⟩ 332 (.ref 74)].toArray 21, [].toArray⟩
noncomputable def oE12 (P : Params) : Obj := ⟨.none, none, .fields [.int 5 0, .int 0 0, .ref 20, .int 11 0, .int 0 0, .ref 27, .int 51 0, .int 0 0, .ref 34, .int 64 0, .int 0 0, .ref 41, .int 66 0, .int 0 0, .ref 48, .int 68 0, .int 0 0, .ref 55, .int 76 0, .int 0 0, .ref 73].toArray, [].toArray⟩
noncomputable def oE68 (P : Params) : Obj := ⟨(.type "tuple"), none, .seq [].toArray 0, [].toArray⟩
noncomputable def oE69 (P : Params) : Obj := ⟨.none, none, .fields [].toArray, [].toArray⟩
noncomputable def oE70 (P : Params) : Obj := ⟨(.type "tuple"), none, .seq [.str ⟨#[99, 111, 100, 101]⟩ 329].toArray 0, [].toArray⟩
noncomputable def oE71 (P : Params) : Obj := ⟨(.type "tuple"), none, .seq [].toArray 0, [].toArray⟩
noncomputable def oE72 (P : Params) : Obj := ⟨.none, none, .func (fnd 15 ⟨#[105, 110, 95, 116, 97, 98, 108, 101, 95, 98, 49]⟩ ⟨#[105, 110, 95, 116, 97, 98, 108, 101, 95, 98, 49]⟩ 0 .none .none), [].toArray⟩
noncomputable def oE73 (P : Params) : Obj := ⟨(.type "code"), none, .fields [.str ⟨#[105, 110, 95, 116, 97, 98, 108, 101, 95, 98, 49]⟩ 326, .str ⟨#[105, 110, 95, 116, 97, 98, 108, 101, 95, 98, 49]⟩ 327, .str ⟨#[47, 99, 108, 97, 105, 109, 47, 99, 117, 116, 46, 112, 121]⟩ 328, .int 76 0, .int 1 0, .int 0 0, .int 0 0, .int 3 0, .ref 68, .bool true, .int 181 0, .ref 69, .none, .ref 70, .ref 71, .ref 72, .int 330 0, .int 76 0, .str ⟨#[47, 99, 108, 97, 105, 109, 47, 99, 117, 116, 46, 112, 121]⟩ 331].toArray, [].toArray⟩
noncomputable def oE74 (P : Params) : Obj := ⟨(.type "function"), none, .func (fnd 15 ⟨#[105, 110, 95, 116, 97, 98, 108, 101, 95, 98, 49]⟩ ⟨#[105, 110, 95, 116, 97, 98, 108, 101, 95, 98, 49]⟩ 3 (.str ⟨#[99, 112, 121, 51, 49, 51, 46, 115, 116, 114, 105, 110, 103, 112, 114, 101, 112]⟩ 264) (.ref 73)), [].toArray⟩
noncomputable def TE (P : Params) : BT := (.node (boot_o_0 P) (.node (boot_o_1 P) (.node (oE3 P) (.node (boot_o_7 P) (.node (oC15 P) (.node (oC31 P) (.node (oD63 P) .nil .nil) .nil) (.node (oC47 P) .nil .nil)) (.node (oC23 P) (.node (oC39 P) (.node (oE71 P) .nil .nil) .nil) (.node (oC55 P) .nil .nil))) (.node (oA11 P) (.node (oC19 P) (.node (oC35 P) (.node (oD67 P) .nil .nil) .nil) (.node (oC51 P) .nil .nil)) (.node (oC27 P) (.node (oC43 P) .nil .nil) (.node (oD59 P) .nil .nil)))) (.node (boot_o_5 P) (.node (boot_o_9 P) (.node (oC17 P) (.node (oC33 P) (.node (oD65 P) .nil .nil) .nil) (.node (oC49 P) .nil .nil)) (.node (oC25 P) (.node (oC41 P) (.node (oE73 P) .nil .nil) .nil) (.node (oD57 P) .nil .nil))) (.node (oA13 P) (.node (oC21 P) (.node (oC37 P) (.node (oE69 P) .nil .nil) .nil) (.node (oC53 P) .nil .nil)) (.node (oC29 P) (.node (oC45 P) .nil .nil) (.node (oD61 P) .nil .nil))))) (.node (boot_o_2 P) (.node (boot_o_4 P) (.node (boot_o_8 P) (.node (oC16 P) (.node (oC32 P) (.node (oD64 P) .nil .nil) .nil) (.node (oC48 P) .nil .nil)) (.node (oC24 P) (.node (oC40 P) (.node (oE72 P) .nil .nil) .nil) (.node (oC56 P) .nil .nil))) (.node (oE12 P) (.node (oC20 P) (.node (oC36 P) (.node (oE68 P) .nil .nil) .nil) (.node (oC52 P) .nil .nil)) (.node (oC28 P) (.node (oC44 P) .nil .nil) (.node (oD60 P) .nil .nil)))) (.node (boot_o_6 P) (.node (boot_o_10 P) (.node (oC18 P) (.node (oC34 P) (.node (oD66 P) .nil .nil) .nil) (.node (oC50 P) .nil .nil)) (.node (oC26 P) (.node (oC42 P) (.node (oE74 P) .nil .nil) .nil) (.node (oD58 P) .nil .nil))) (.node (oA14 P) (.node (oC22 P) (.node (oC38 P) (.node (oE70 P) .nil .nil) .nil) (.node (oC54 P) .nil .nil)) (.node (oC30 P) (.node (oC46 P) .nil .nil) (.node (oD62 P) .nil .nil))))))
noncomputable def oF3 (P : Params) : Obj := ⟨(.type "dict"), none, .dict [en P ⟨#[95, 95, 110, 97, 109, 101, 95, 95]⟩ 165 (.str ⟨#[99, 112, 121, 51, 49, 51, 46, 115, 116, 114, 105, 110, 103, 112, 114, 101, 112]⟩ 264), en P ⟨#[95, 95, 100, 111, 99, 95, 95]⟩ 166 .none, en P ⟨#[95, 95, 112, 97, 99, 107, 97, 103, 101, 95, 95]⟩ 167 .none, en P ⟨#[95, 95, 108, 111, 97, 100, 101, 114, 95, 95]⟩ 168 (.builtin "__main__.__loader__#opaque"), en P ⟨#[95, 95, 115, 112, 101, 99, 95, 95]⟩ 169 .none, en P ⟨#[95, 95, 97, 110, 110, 111, 116, 97, 116, 105, 111, 110, 115, 95, 95]⟩ 170 (.ref 6), en P ⟨#[95, 95, 98, 117, 105, 108, 116, 105, 110, 115, 95, 95]⟩ 171 (.ref 4), en P ⟨#[95, 95, 102, 105, 108, 101, 95, 95]⟩ 173 (.str ⟨#[47, 99, 108, 97, 105, 109, 47, 99, 117, 116, 46, 112, 121]⟩ 172), en P ⟨#[95, 95, 99, 97, 99, 104, 101, 100, 95, 95]⟩ 174 .none, en P ⟨#[95, 77, 65, 88, 95, 83, 84, 82, 73, 78, 71, 95, 83, 73, 90, 69]⟩ 190 (.int 40 189), en P ⟨#[95, 77, 79, 86, 69, 95, 67, 79, 83, 84]⟩ 192 (.int 2 191), en P ⟨#[95, 67, 65, 83, 69, 95, 67, 79, 83, 84]⟩ 194 (.int 1 193), en P ⟨#[95, 115, 117, 98, 115, 116, 105, 116, 117, 116, 105, 111, 110, 95, 99, 111, 115, 116]⟩ 202 (.ref 21), en P ⟨#[95, 108, 101, 118, 101, 110, 115, 104, 116, 101, 105, 110, 95, 100, 105, 115, 116, 97, 110, 99, 101]⟩ 222 (.ref 28), en P ⟨#[67, 72, 65, 82, 95, 77, 65, 88]⟩ 226 (.int 127 225), en P ⟨#[95, 103, 114, 111, 117, 112, 105, 110, 103, 95, 105, 110, 116, 101, 114, 118, 97, 108, 115]⟩ 235 (.ref 35), en P ⟨#[97, 100, 100]⟩ 245 (.ref 42), en P ⟨#[115, 117, 98]⟩ 253 (.ref 49), en P ⟨#[99, 111, 117, 110, 116, 79, 102]⟩ 263 (.ref 56), en P ⟨#[98, 49, 95, 115, 101, 116]⟩ 325 (.ref 64), en P ⟨#[105, 110, 95, 116, 97, 98, 108, 101, 95, 98, 49]⟩ 332 (.ref 74), en P ⟨#[98, 51, 95, 101, 120, 99, 101, 112, 116, 105, 111, 110, 115]⟩ 2283 (.ref 75)].toArray 22, [].toArray⟩
noncomputable def oF75 (P : Params) : Obj := dO b3main
noncomputable def oF76 (P : Params) : Obj := b3sub 0
noncomputable def oF77 (P : Params) : Obj := b3sub 1
noncomputable def oF78 (P : Params) : Obj := b3sub 2
noncomputable def oF79 (P : Params) : Obj := b3sub 3
noncomputable def oF80 (P : Params) : Obj := b3sub 4
noncomputable def oF81 (P : Params) : Obj := b3sub 5
noncomputable def oF82 (P : Params) : Obj := b3sub 6
noncomputable def oF83 (P : Params) : Obj := b3sub 7
noncomputable def oF84 (P : Params) : Obj := b3sub 8
noncomputable def oF85 (P : Params) : Obj := b3sub 9
noncomputable def oF86 (P : Params) : Obj := b3sub 10
noncomputable def oF87 (P : Params) : Obj := b3sub 11
noncomputable def oF88 (P : Params) : Obj := b3sub 12
noncomputable def oF89 (P : Params) : Obj := b3sub 13
noncomputable def oF90 (P : Params) : Obj := b3sub 14
noncomputable def oF91 (P : Params) : Obj := b3sub 15
noncomputable def oF92 (P : Params) : Obj := b3sub 16
noncomputable def oF93 (P : Params) : Obj := b3sub 17
noncomputable def oF94 (P : Params) : Obj := b3sub 18
noncomputable def oF95 (P : Params) : Obj := b3sub 19
noncomputable def oF96 (P : Params) : Obj := b3sub 20
noncomputable def oF97 (P : Params) : Obj := b3sub 21
noncomputable def oF98 (P : Params) : Obj := b3sub 22
noncomputable def oF99 (P : Params) : Obj := b3sub 23
noncomputable def oF100 (P : Params) : Obj := b3sub 24
noncomputable def oF101 (P : Params) : Obj := b3sub 25
noncomputable def oF102 (P : Params) : Obj := b3sub 26
noncomputable def oF103 (P : Params) : Obj := b3sub 27
noncomputable def oF104 (P : Params) : Obj := b3sub 28
noncomputable def oF105 (P : Params) : Obj := b3sub 29
noncomputable def oF106 (P : Params) : Obj := b3sub 30
noncomputable def oF107 (P : Params) : Obj := b3sub 31
noncomputable def oF108 (P : Params) : Obj := b3sub 32
noncomputable def oF109 (P : Params) : Obj := b3sub 33
noncomputable def oF110 (P : Params) : Obj := b3sub 34
noncomputable def oF111 (P : Params) : Obj := b3sub 35
noncomputable def oF112 (P : Params) : Obj := b3sub 36
noncomputable def oF113 (P : Params) : Obj := b3sub 37
noncomputable def TF (P : Params) : BT := (.node (boot_o_0 P) (.node (boot_o_1 P) (.node (oF3 P) (.node (boot_o_7 P) (.node (oC15 P) (.node (oC31 P) (.node (oD63 P) .nil .nil) (.node (oF95 P) .nil .nil)) (.node (oC47 P) (.node (oF79 P) .nil .nil) (.node (oF111 P) .nil .nil))) (.node (oC23 P) (.node (oC39 P) (.node (oE71 P) .nil .nil) (.node (oF103 P) .nil .nil)) (.node (oC55 P) (.node (oF87 P) .nil .nil) .nil))) (.node (oA11 P) (.node (oC19 P) (.node (oC35 P) (.node (oD67 P) .nil .nil) (.node (oF99 P) .nil .nil)) (.node (oC51 P) (.node (oF83 P) .nil .nil) .nil)) (.node (oC27 P) (.node (oC43 P) (.node (oF75 P) .nil .nil) (.node (oF107 P) .nil .nil)) (.node (oD59 P) (.node (oF91 P) .nil .nil) .nil)))) (.node (boot_o_5 P) (.node (boot_o_9 P) (.node (oC17 P) (.node (oC33 P) (.node (oD65 P) .nil .nil) (.node (oF97 P) .nil .nil)) (.node (oC49 P) (.node (oF81 P) .nil .nil) (.node (oF113 P) .nil .nil))) (.node (oC25 P) (.node (oC41 P) (.node (oE73 P) .nil .nil) (.node (oF105 P) .nil .nil)) (.node (oD57 P) (.node (oF89 P) .nil .nil) .nil))) (.node (oA13 P) (.node (oC21 P) (.node (oC37 P) (.node (oE69 P) .nil .nil) (.node (oF101 P) .nil .nil)) (.node (oC53 P) (.node (oF85 P) .nil .nil) .nil)) (.node (oC29 P) (.node (oC45 P) (.node (oF77 P) .nil .nil) (.node (oF109 P) .nil .nil)) (.node (oD61 P) (.node (oF93 P) .nil .nil) .nil))))) (.node (boot_o_2 P) (.node (boot_o_4 P) (.node (boot_o_8 P) (.node (oC16 P) (.node (oC32 P) (.node (oD64 P) .nil .nil) (.node (oF96 P) .nil .nil)) (.node (oC48 P) (.node (oF80 P) .nil .nil) (.node (oF112 P) .nil .nil))) (.node (oC24 P) (.node (oC40 P) (.node (oE72 P) .nil .nil) (.node (oF104 P) .nil .nil)) (.node (oC56 P) (.node (oF88 P) .nil .nil) .nil))) (.node (oE12 P) (.node (oC20 P) (.node (oC36 P) (.node (oE68 P) .nil .nil) (.node (oF100 P) .nil .nil)) (.node (oC52 P) (.node (oF84 P) .nil .nil) .nil)) (.node (oC28 P) (.node (oC44 P) (.node (oF76 P) .nil .nil) (.node (oF108 P) .nil .nil)) (.node (oD60 P) (.node (oF92 P) .nil .nil) .nil)))) (.node (boot_o_6 P) (.node (boot_o_10 P) (.node (oC18 P) (.node (oC34 P) (.node (oD66 P) .nil .nil) (.node (oF98 P) .nil .nil)) (.node (oC50 P) (.node (oF82 P) .nil .nil) .nil)) (.node (oC26 P) (.node (oC42 P) (.node (oE74 P) .nil .nil) (.node (oF106 P) .nil .nil)) (.node (oD58 P) (.node (oF90 P) .nil .nil) .nil))) (.node (oA14 P) (.node (oC22 P) (.node (oC38 P) (.node (oE70 P) .nil .nil) (.node (oF102 P) .nil .nil)) (.node (oC54 P) (.node (oF86 P) .nil .nil) .nil)) (.node (oC30 P) (.node (oC46 P) (.node (oF78 P) .nil .nil) (.node (oF110 P) .nil .nil)) (.node (oD62 P) (.node (oF94 P) .nil .nil) .nil))))))
noncomputable def TF0 (P : Params) : BT := (.node (boot_o_0 P) (.node (boot_o_1 P) (.node (oE3 P) (.node (boot_o_7 P) (.node (oC15 P) (.node (oC31 P) (.node (oD63 P) .nil .nil) (.node (oF95 P) .nil .nil)) (.node (oC47 P) (.node (oF79 P) .nil .nil) (.node (oF111 P) .nil .nil))) (.node (oC23 P) (.node (oC39 P) (.node (oE71 P) .nil .nil) (.node (oF103 P) .nil .nil)) (.node (oC55 P) (.node (oF87 P) .nil .nil) .nil))) (.node (oA11 P) (.node (oC19 P) (.node (oC35 P) (.node (oD67 P) .nil .nil) (.node (oF99 P) .nil .nil)) (.node (oC51 P) (.node (oF83 P) .nil .nil) .nil)) (.node (oC27 P) (.node (oC43 P) (.node (oF75 P) .nil .nil) (.node (oF107 P) .nil .nil)) (.node (oD59 P) (.node (oF91 P) .nil .nil) .nil)))) (.node (boot_o_5 P) (.node (boot_o_9 P) (.node (oC17 P) (.node (oC33 P) (.node (oD65 P) .nil .nil) (.node (oF97 P) .nil .nil)) (.node (oC49 P) (.node (oF81 P) .nil .nil) (.node (oF113 P) .nil .nil))) (.node (oC25 P) (.node (oC41 P) (.node (oE73 P) .nil .nil) (.node (oF105 P) .nil .nil)) (.node (oD57 P) (.node (oF89 P) .nil .nil) .nil))) (.node (oA13 P) (.node (oC21 P) (.node (oC37 P) (.node (oE69 P) .nil .nil) (.node (oF101 P) .nil .nil)) (.node (oC53 P) (.node (oF85 P) .nil .nil) .nil)) (.node (oC29 P) (.node (oC45 P) (.node (oF77 P) .nil .nil) (.node (oF109 P) .nil .nil)) (.node (oD61 P) (.node (oF93 P) .nil .nil) .nil))))) (.node (boot_o_2 P) (.node (boot_o_4 P) (.node (boot_o_8 P) (.node (oC16 P) (.node (oC32 P) (.node (oD64 P) .nil .nil) (.node (oF96 P) .nil .nil)) (.node (oC48 P) (.node (oF80 P) .nil .nil) (.node (oF112 P) .nil .nil))) (.node (oC24 P) (.node (oC40 P) (.node (oE72 P) .nil .nil) (.node (oF104 P) .nil .nil)) (.node (oC56 P) (.node (oF88 P) .nil .nil) .nil))) (.node (oE12 P) (.node (oC20 P) (.node (oC36 P) (.node (oE68 P) .nil .nil) (.node (oF100 P) .nil .nil)) (.node (oC52 P) (.node (oF84 P) .nil .nil) .nil)) (.node (oC28 P) (.node (oC44 P) (.node (oF76 P) .nil .nil) (.node (oF108 P) .nil .nil)) (.node (oD60 P) (.node (oF92 P) .nil .nil) .nil)))) (.node (boot_o_6 P) (.node (boot_o_10 P) (.node (oC18 P) (.node (oC34 P) (.node (oD66 P) .nil .nil) (.node (oF98 P) .nil .nil)) (.node (oC50 P) (.node (oF82 P) .nil .nil) .nil)) (.node (oC26 P) (.node (oC42 P) (.node (oE74 P) .nil .nil) (.node (oF106 P) .nil .nil)) (.node (oD58 P) (.node (oF90 P) .nil .nil) .nil))) (.node (oA14 P) (.node (oC22 P) (.node (oC38 P) (.node (oE70 P) .nil .nil) (.node (oF102 P) .nil .nil)) (.node (oC54 P) (.node (oF86 P) .nil .nil) .nil)) (.node (oC30 P) (.node (oC46 P) (.node (oF78 P) .nil .nil) (.node (oF110 P) .nil .nil)) (.node (oD62 P) (.node (oF94 P) .nil .nil) .nil))))))
noncomputable def oG3 (P : Params) : Obj := ⟨(.type "dict"), none, .dict [en P ⟨#[95, 95, 110, 97, 109, 101, 95, 95]⟩ 165 (.str ⟨#[108, 97, 119, 95, 116, 111, 48, 48, 53, 53, 95, 48, 49]⟩ 2292), en P ⟨#[95, 95, 100, 111, 99, 95, 95]⟩ 166 .none, en P ⟨#[95, 95, 112, 97, 99, 107, 97, 103, 101, 95, 95]⟩ 167 .none, en P ⟨#[95, 95, 108, 111, 97, 100, 101, 114, 95, 95]⟩ 168 (.builtin "__main__.__loader__#opaque"), en P ⟨#[95, 95, 115, 112, 101, 99, 95, 95]⟩ 169 .none, en P ⟨#[95, 95, 97, 110, 110, 111, 116, 97, 116, 105, 111, 110, 115, 95, 95]⟩ 170 (.ref 6), en P ⟨#[95, 95, 98, 117, 105, 108, 116, 105, 110, 115, 95, 95]⟩ 171 (.ref 4), en P ⟨#[95, 95, 102, 105, 108, 101, 95, 95]⟩ 173 (.str ⟨#[47, 99, 108, 97, 105, 109, 47, 99, 117, 116, 46, 112, 121]⟩ 172), en P ⟨#[95, 95, 99, 97, 99, 104, 101, 100, 95, 95]⟩ 174 .none, en P ⟨#[95, 77, 65, 88, 95, 83, 84, 82, 73, 78, 71, 95, 83, 73, 90, 69]⟩ 190 (.int 40 189), en P ⟨#[95, 77, 79, 86, 69, 95, 67, 79, 83, 84]⟩ 192 (.int 2 191), en P ⟨#[95, 67, 65, 83, 69, 95, 67, 79, 83, 84]⟩ 194 (.int 1 193), en P ⟨#[95, 115, 117, 98, 115, 116, 105, 116, 117, 116, 105, 111, 110, 95, 99, 111, 115, 116]⟩ 202 (.ref 21), en P ⟨#[95, 108, 101, 118, 101, 110, 115, 104, 116, 101, 105, 110, 95, 100, 105, 115, 116, 97, 110, 99, 101]⟩ 222 (.ref 28), en P ⟨#[67, 72, 65, 82, 95, 77, 65, 88]⟩ 226 (.int 127 225), en P ⟨#[95, 103, 114, 111, 117, 112, 105, 110, 103, 95, 105, 110, 116, 101, 114, 118, 97, 108, 115]⟩ 235 (.ref 35), en P ⟨#[97, 100, 100]⟩ 245 (.ref 42), en P ⟨#[115, 117, 98]⟩ 253 (.ref 49), en P ⟨#[99, 111, 117, 110, 116, 79, 102]⟩ 263 (.ref 56), en P ⟨#[98, 49, 95, 115, 101, 116]⟩ 325 (.ref 64), en P ⟨#[105, 110, 95, 116, 97, 98, 108, 101, 95, 98, 49]⟩ 332 (.ref 74), en P ⟨#[98, 51, 95, 101, 120, 99, 101, 112, 116, 105, 111, 110, 115]⟩ 2283 (.ref 75), en P ⟨#[109, 97, 112, 95, 116, 97, 98, 108, 101, 95, 98, 51]⟩ 2291 (.ref 120), en P ⟨#[95, 108, 97, 119, 95, 103, 111, 110, 101]⟩ 2302 (.ref 127), en P ⟨#[95, 108, 97, 119, 95, 116, 121, 112, 101, 100]⟩ 2308 (.ref 132), en P ⟨#[95, 108, 97, 119, 95, 99, 117, 116]⟩ 2319 (.ref 139), en P ⟨#[95, 108, 97, 119, 95, 109, 97, 115, 107, 115]⟩ 2325 (.ref 144), en P ⟨#[108, 97, 119]⟩ 2331 (.ref 149)].toArray 28, [].toArray⟩
noncomputable def oG12 (P : Params) : Obj := ⟨.none, none, .fields [.int 5 0, .int 0 0, .ref 20, .int 11 0, .int 0 0, .ref 27, .int 51 0, .int 0 0, .ref 34, .int 64 0, .int 0 0, .ref 41, .int 66 0, .int 0 0, .ref 48, .int 68 0, .int 0 0, .ref 55, .int 76 0, .int 0 0, .ref 73, .int 79 0, .int 0 0, .ref 119, .int 85 0, .int 0 0, .ref 126, .int 89 0, .int 0 0, .ref 131, .int 93 0, .int 0 0, .ref 138, .int 99 0, .int 0 0, .ref 143, .int 106 0, .int 0 0, .ref 148].toArray, [].toArray⟩
noncomputable def oG114 (P : Params) : Obj := ⟨(.type "tuple"), none, .seq [].toArray 0, [].toArray⟩
noncomputable def oG115 (P : Params) : Obj := ⟨.none, none, .fields [].toArray, [].toArray⟩
noncomputable def oG116 (P : Params) : Obj := ⟨(.type "tuple"), none, .seq [.str ⟨#[99, 111, 100, 101]⟩ 2287, .str ⟨#[114]⟩ 2288].toArray 0, [].toArray⟩
noncomputable def oG117 (P : Params) : Obj := ⟨(.type "tuple"), none, .seq [].toArray 0, [].toArray⟩
noncomputable def oG118 (P : Params) : Obj := ⟨.none, none, .func (fnd 17 ⟨#[109, 97, 112, 95, 116, 97, 98, 108, 101, 95, 98, 51]⟩ ⟨#[109, 97, 112, 95, 116, 97, 98, 108, 101, 95, 98, 51]⟩ 0 .none .none), [].toArray⟩
noncomputable def oG119 (P : Params) : Obj := ⟨(.type "code"), none, .fields [.str ⟨#[109, 97, 112, 95, 116, 97, 98, 108, 101, 95, 98, 51]⟩ 2284, .str ⟨#[109, 97, 112, 95, 116, 97, 98, 108, 101, 95, 98, 51]⟩ 2285, .str ⟨#[47, 99, 108, 97, 105, 109, 47, 99, 117, 116, 46, 112, 121]⟩ 2286, .int 79 0, .int 1 0, .int 0 0, .int 0 0, .int 3 0, .ref 114, .bool true, .int 181 0, .ref 115, .none, .ref 116, .ref 117, .ref 118, .int 2289 0, .int 79 0, .str ⟨#[47, 99, 108, 97, 105, 109, 47, 99, 117, 116, 46, 112, 121]⟩ 2290].toArray, [].toArray⟩
noncomputable def oG120 (P : Params) : Obj := ⟨(.type "function"), none, .func (fnd 17 ⟨#[109, 97, 112, 95, 116, 97, 98, 108, 101, 95, 98, 51]⟩ ⟨#[109, 97, 112, 95, 116, 97, 98, 108, 101, 95, 98, 51]⟩ 3 (.str ⟨#[99, 112, 121, 51, 49, 51, 46, 115, 116, 114, 105, 110, 103, 112, 114, 101, 112]⟩ 264) (.ref 119)), [].toArray⟩
noncomputable def oG121 (P : Params) : Obj := ⟨(.type "tuple"), none, .seq [].toArray 0, [].toArray⟩
noncomputable def oG122 (P : Params) : Obj := ⟨.none, none, .fields [].toArray, [].toArray⟩
noncomputable def oG123 (P : Params) : Obj := ⟨(.type "tuple"), none, .seq [.str ⟨#[116, 117, 114, 110]⟩ 2297, .str ⟨#[112, 108, 97, 99, 101]⟩ 2298, .str ⟨#[102, 101, 119]⟩ 2299].toArray 0, [].toArray⟩
noncomputable def oG124 (P : Params) : Obj := ⟨(.type "tuple"), none, .seq [].toArray 0, [].toArray⟩
noncomputable def oG125 (P : Params) : Obj := ⟨.none, none, .func (fnd 19 ⟨#[95, 108, 97, 119, 95, 103, 111, 110, 101]⟩ ⟨#[95, 108, 97, 119, 95, 103, 111, 110, 101]⟩ 0 .none .none), [].toArray⟩
noncomputable def oG126 (P : Params) : Obj := ⟨(.type "code"), none, .fields [.str ⟨#[95, 108, 97, 119, 95, 103, 111, 110, 101]⟩ 2294, .str ⟨#[95, 108, 97, 119, 95, 103, 111, 110, 101]⟩ 2295, .str ⟨#[47, 99, 108, 97, 105, 109, 47, 99, 117, 116, 46, 112, 121]⟩ 2296, .int 85 0, .int 1 0, .int 0 0, .int 0 0, .int 3 0, .ref 121, .bool true, .int 181 0, .ref 122, .none, .ref 123, .ref 124, .ref 125, .int 2300 0, .int 85 0, .str ⟨#[47, 99, 108, 97, 105, 109, 47, 99, 117, 116, 46, 112, 121]⟩ 2301].toArray, [].toArray⟩
noncomputable def oG127 (P : Params) : Obj := ⟨(.type "function"), none, .func (fnd 19 ⟨#[95, 108, 97, 119, 95, 103, 111, 110, 101]⟩ ⟨#[95, 108, 97, 119, 95, 103, 111, 110, 101]⟩ 3 (.str ⟨#[108, 97, 119, 95, 116, 111, 48, 48, 53, 53, 95, 48, 49]⟩ 2292) (.ref 126)), [].toArray⟩
noncomputable def oG128 (P : Params) : Obj := ⟨(.type "tuple"), none, .seq [].toArray 0, [].toArray⟩
noncomputable def oG129 (P : Params) : Obj := ⟨.none, none, .fields [].toArray, [].toArray⟩
noncomputable def oG130 (P : Params) : Obj := ⟨.none, none, .func (fnd 20 ⟨#[95, 108, 97, 119, 95, 116, 121, 112, 101, 100]⟩ ⟨#[95, 108, 97, 119, 95, 116, 121, 112, 101, 100]⟩ 0 .none .none), [].toArray⟩
noncomputable def oG131 (P : Params) : Obj := ⟨(.type "code"), none, .fields [.str ⟨#[95, 108, 97, 119, 95, 116, 121, 112, 101, 100]⟩ 2303, .str ⟨#[95, 108, 97, 119, 95, 116, 121, 112, 101, 100]⟩ 2304, .str ⟨#[47, 99, 108, 97, 105, 109, 47, 99, 117, 116, 46, 112, 121]⟩ 2305, .int 89 0, .int 4 0, .int 0 0, .int 0 0, .int 3 0, .ref 128, .bool true, .int 181 0, .ref 129, .none, .none, .none, .ref 130, .int 2306 0, .int 89 0, .str ⟨#[47, 99, 108, 97, 105, 109, 47, 99, 117, 116, 46, 112, 121]⟩ 2307].toArray, [].toArray⟩
noncomputable def oG132 (P : Params) : Obj := ⟨(.type "function"), none, .func (fnd 20 ⟨#[95, 108, 97, 119, 95, 116, 121, 112, 101, 100]⟩ ⟨#[95, 108, 97, 119, 95, 116, 121, 112, 101, 100]⟩ 3 (.str ⟨#[108, 97, 119, 95, 116, 111, 48, 48, 53, 53, 95, 48, 49]⟩ 2292) (.ref 131)), [].toArray⟩
noncomputable def oG133 (P : Params) : Obj := ⟨(.type "tuple"), none, .seq [].toArray 0, [].toArray⟩
noncomputable def oG134 (P : Params) : Obj := ⟨.none, none, .fields [].toArray, [].toArray⟩
noncomputable def oG135 (P : Params) : Obj := ⟨(.type "tuple"), none, .seq [.str ⟨#[108, 105, 110, 101]⟩ 2312, .str ⟨#[115, 105, 122, 101, 115]⟩ 2313, .str ⟨#[112, 105, 101, 99, 101, 115]⟩ 2314, .str ⟨#[97, 116]⟩ 2315, .str ⟨#[115, 105, 122, 101]⟩ 2316].toArray 0, [].toArray⟩
noncomputable def oG136 (P : Params) : Obj := ⟨(.type "tuple"), none, .seq [].toArray 0, [].toArray⟩
noncomputable def oG137 (P : Params) : Obj := ⟨.none, none, .func (fnd 21 ⟨#[95, 108, 97, 119, 95, 99, 117, 116]⟩ ⟨#[95, 108, 97, 119, 95, 99, 117, 116]⟩ 0 .none .none), [].toArray⟩
noncomputable def oG138 (P : Params) : Obj := ⟨(.type "code"), none, .fields [.str ⟨#[95, 108, 97, 119, 95, 99, 117, 116]⟩ 2309, .str ⟨#[95, 108, 97, 119, 95, 99, 117, 116]⟩ 2310, .str ⟨#[47, 99, 108, 97, 105, 109, 47, 99, 117, 116, 46, 112, 121]⟩ 2311, .int 93 0, .int 2 0, .int 0 0, .int 0 0, .int 3 0, .ref 133, .bool true, .int 181 0, .ref 134, .none, .ref 135, .ref 136, .ref 137, .int 2317 0, .int 93 0, .str ⟨#[47, 99, 108, 97, 105, 109, 47, 99, 117, 116, 46, 112, 121]⟩ 2318].toArray, [].toArray⟩
noncomputable def oG139 (P : Params) : Obj := ⟨(.type "function"), none, .func (fnd 21 ⟨#[95, 108, 97, 119, 95, 99, 117, 116]⟩ ⟨#[95, 108, 97, 119, 95, 99, 117, 116]⟩ 3 (.str ⟨#[108, 97, 119, 95, 116, 111, 48, 48, 53, 53, 95, 48, 49]⟩ 2292) (.ref 138)), [].toArray⟩
noncomputable def oG140 (P : Params) : Obj := ⟨(.type "tuple"), none, .seq [].toArray 0, [].toArray⟩
noncomputable def oG141 (P : Params) : Obj := ⟨.none, none, .fields [].toArray, [].toArray⟩
noncomputable def oG142 (P : Params) : Obj := ⟨.none, none, .func (fnd 22 ⟨#[95, 108, 97, 119, 95, 109, 97, 115, 107, 115]⟩ ⟨#[95, 108, 97, 119, 95, 109, 97, 115, 107, 115]⟩ 0 .none .none), [].toArray⟩
noncomputable def oG143 (P : Params) : Obj := ⟨(.type "code"), none, .fields [.str ⟨#[95, 108, 97, 119, 95, 109, 97, 115, 107, 115]⟩ 2320, .str ⟨#[95, 108, 97, 119, 95, 109, 97, 115, 107, 115]⟩ 2321, .str ⟨#[47, 99, 108, 97, 105, 109, 47, 99, 117, 116, 46, 112, 121]⟩ 2322, .int 99 0, .int 1 0, .int 0 0, .int 0 0, .int 3 0, .ref 140, .bool true, .int 181 0, .ref 141, .none, .none, .none, .ref 142, .int 2323 0, .int 99 0, .str ⟨#[47, 99, 108, 97, 105, 109, 47, 99, 117, 116, 46, 112, 121]⟩ 2324].toArray, [].toArray⟩
noncomputable def oG144 (P : Params) : Obj := ⟨(.type "function"), none, .func (fnd 22 ⟨#[95, 108, 97, 119, 95, 109, 97, 115, 107, 115]⟩ ⟨#[95, 108, 97, 119, 95, 109, 97, 115, 107, 115]⟩ 3 (.str ⟨#[108, 97, 119, 95, 116, 111, 48, 48, 53, 53, 95, 48, 49]⟩ 2292) (.ref 143)), [].toArray⟩
noncomputable def oG145 (P : Params) : Obj := ⟨(.type "tuple"), none, .seq [].toArray 0, [].toArray⟩
noncomputable def oG146 (P : Params) : Obj := ⟨.none, none, .fields [].toArray, [].toArray⟩
noncomputable def oG147 (P : Params) : Obj := ⟨.none, none, .func (fnd 23 ⟨#[108, 97, 119]⟩ ⟨#[108, 97, 119]⟩ 0 .none .none), [].toArray⟩
noncomputable def oG148 (P : Params) : Obj := ⟨(.type "code"), none, .fields [.str ⟨#[108, 97, 119]⟩ 2326, .str ⟨#[108, 97, 119]⟩ 2327, .str ⟨#[47, 99, 108, 97, 105, 109, 47, 99, 117, 116, 46, 112, 121]⟩ 2328, .int 106 0, .int 1 0, .int 0 0, .int 0 0, .int 3 0, .ref 145, .bool true, .int 181 0, .ref 146, .none, .none, .none, .ref 147, .int 2329 0, .int 106 0, .str ⟨#[47, 99, 108, 97, 105, 109, 47, 99, 117, 116, 46, 112, 121]⟩ 2330].toArray, [].toArray⟩
noncomputable def oG149 (P : Params) : Obj := ⟨(.type "function"), none, .func (fnd 23 ⟨#[108, 97, 119]⟩ ⟨#[108, 97, 119]⟩ 3 (.str ⟨#[108, 97, 119, 95, 116, 111, 48, 48, 53, 53, 95, 48, 49]⟩ 2292) (.ref 148)), [].toArray⟩
noncomputable def TG (P : Params) : BT := (.node (boot_o_0 P) (.node (boot_o_1 P) (.node (oG3 P) (.node (boot_o_7 P) (.node (oC15 P) (.node (oC31 P) (.node (oD63 P) (.node (oG127 P) .nil .nil) .nil) (.node (oF95 P) .nil .nil)) (.node (oC47 P) (.node (oF79 P) (.node (oG143 P) .nil .nil) .nil) (.node (oF111 P) .nil .nil))) (.node (oC23 P) (.node (oC39 P) (.node (oE71 P) (.node (oG135 P) .nil .nil) .nil) (.node (oF103 P) .nil .nil)) (.node (oC55 P) (.node (oF87 P) .nil .nil) (.node (oG119 P) .nil .nil)))) (.node (oA11 P) (.node (oC19 P) (.node (oC35 P) (.node (oD67 P) (.node (oG131 P) .nil .nil) .nil) (.node (oF99 P) .nil .nil)) (.node (oC51 P) (.node (oF83 P) (.node (oG147 P) .nil .nil) .nil) (.node (oG115 P) .nil .nil))) (.node (oC27 P) (.node (oC43 P) (.node (oF75 P) (.node (oG139 P) .nil .nil) .nil) (.node (oF107 P) .nil .nil)) (.node (oD59 P) (.node (oF91 P) .nil .nil) (.node (oG123 P) .nil .nil))))) (.node (boot_o_5 P) (.node (boot_o_9 P) (.node (oC17 P) (.node (oC33 P) (.node (oD65 P) (.node (oG129 P) .nil .nil) .nil) (.node (oF97 P) .nil .nil)) (.node (oC49 P) (.node (oF81 P) (.node (oG145 P) .nil .nil) .nil) (.node (oF113 P) .nil .nil))) (.node (oC25 P) (.node (oC41 P) (.node (oE73 P) (.node (oG137 P) .nil .nil) .nil) (.node (oF105 P) .nil .nil)) (.node (oD57 P) (.node (oF89 P) .nil .nil) (.node (oG121 P) .nil .nil)))) (.node (oA13 P) (.node (oC21 P) (.node (oC37 P) (.node (oE69 P) (.node (oG133 P) .nil .nil) .nil) (.node (oF101 P) .nil .nil)) (.node (oC53 P) (.node (oF85 P) (.node (oG149 P) .nil .nil) .nil) (.node (oG117 P) .nil .nil))) (.node (oC29 P) (.node (oC45 P) (.node (oF77 P) (.node (oG141 P) .nil .nil) .nil) (.node (oF109 P) .nil .nil)) (.node (oD61 P) (.node (oF93 P) .nil .nil) (.node (oG125 P) .nil .nil)))))) (.node (boot_o_2 P) (.node (boot_o_4 P) (.node (boot_o_8 P) (.node (oC16 P) (.node (oC32 P) (.node (oD64 P) (.node (oG128 P) .nil .nil) .nil) (.node (oF96 P) .nil .nil)) (.node (oC48 P) (.node (oF80 P) (.node (oG144 P) .nil .nil) .nil) (.node (oF112 P) .nil .nil))) (.node (oC24 P) (.node (oC40 P) (.node (oE72 P) (.node (oG136 P) .nil .nil) .nil) (.node (oF104 P) .nil .nil)) (.node (oC56 P) (.node (oF88 P) .nil .nil) (.node (oG120 P) .nil .nil)))) (.node (oG12 P) (.node (oC20 P) (.node (oC36 P) (.node (oE68 P) (.node (oG132 P) .nil .nil) .nil) (.node (oF100 P) .nil .nil)) (.node (oC52 P) (.node (oF84 P) (.node (oG148 P) .nil .nil) .nil) (.node (oG116 P) .nil .nil))) (.node (oC28 P) (.node (oC44 P) (.node (oF76 P) (.node (oG140 P) .nil .nil) .nil) (.node (oF108 P) .nil .nil)) (.node (oD60 P) (.node (oF92 P) .nil .nil) (.node (oG124 P) .nil .nil))))) (.node (boot_o_6 P) (.node (boot_o_10 P) (.node (oC18 P) (.node (oC34 P) (.node (oD66 P) (.node (oG130 P) .nil .nil) .nil) (.node (oF98 P) .nil .nil)) (.node (oC50 P) (.node (oF82 P) (.node (oG146 P) .nil .nil) .nil) (.node (oG114 P) .nil .nil))) (.node (oC26 P) (.node (oC42 P) (.node (oE74 P) (.node (oG138 P) .nil .nil) .nil) (.node (oF106 P) .nil .nil)) (.node (oD58 P) (.node (oF90 P) .nil .nil) (.node (oG122 P) .nil .nil)))) (.node (oA14 P) (.node (oC22 P) (.node (oC38 P) (.node (oE70 P) (.node (oG134 P) .nil .nil) .nil) (.node (oF102 P) .nil .nil)) (.node (oC54 P) (.node (oF86 P) .nil .nil) (.node (oG118 P) .nil .nil))) (.node (oC30 P) (.node (oC46 P) (.node (oF78 P) (.node (oG142 P) .nil .nil) .nil) (.node (oF110 P) .nil .nil)) (.node (oD62 P) (.node (oF94 P) .nil .nil) (.node (oG126 P) .nil .nil)))))))
noncomputable def envT : Env := { scope := HP.main.scope, locals := 3, globals := 3, cells := [], code := .ref 13, frame := some 14 }
noncomputable def cT : Code := .body HP.main.body envT
noncomputable abbrev dr0 : Drawn := ⟨0, 0, 0, 0⟩
noncomputable abbrev st (T : Params → BT) (n tk : Nat) (w : World) (os : OsState) : SharedT := ⟨T w.params, n, {}, #[], dr0, tk, os⟩
noncomputable abbrev BB : List Frame := [topFrame ⟨0, 0, 0, 0⟩]
end
end T55

end
section
open PySem PySem.W PyProof.Rows PySem.Calls
namespace T55
set_option maxRecDepth 100000
set_option maxHeartbeats 0
set_option Elab.async false
noncomputable def stC : List Stmt := HP.main.body.take 14

theorem pieceC (w : World) (os : OsState) : segRunT treeTable HP w 11 an 1 268 (st TB 15 187 w os) (piecesOf stC envT cT ⟨0, 0, 0, 0⟩ BB) = some (.next, st TC 57 266 w os, cT, ⟨74, 0, 74, 8⟩) := by
  show segRunT treeTable HP w 11 an 1 268 (st TB 15 187 w os) ⟨(execs stC envT).wrap doneF deadEnd id id, cT, ⟨0, 0, 0, 0⟩, BB⟩ = _
  rw [Fast.te10110043849684766642, Fast.te14364793385576792824, Fast.te12563942051412417395]
  kernel_rfl
end T55

end
section
open PySem PySem.W PyProof.Rows PySem.Calls
namespace T55
set_option maxRecDepth 100000
set_option maxHeartbeats 0
set_option Elab.async false
noncomputable def stD : List Stmt := (HP.main.body.drop 14).take 1
noncomputable def stE : List Stmt := (HP.main.body.drop 15).take 1
noncomputable def stG : List Stmt := HP.main.body.drop 17

theorem pieceE (w : World) (os : OsState) : segRunT treeTable HP w 11 an 1 30 (st TD 68 326 w os) (piecesOf stE envT cT ⟨75, 0, 75, 6⟩ BB) = some (.next, st TE 75 333 w os, cT, ⟨76, 0, 77, 30⟩) := by
  show segRunT treeTable HP w 11 an 1 30 (st TD 68 326 w os) ⟨(execs stE envT).wrap doneF deadEnd id id, cT, ⟨75, 0, 75, 6⟩, BB⟩ = _
  rw [Fast.te10110043849684766642, Fast.te14364793385576792824, Fast.te12563942051412417395]
  kernel_rfl
theorem pieceG (w : World) (os : OsState) : segRunT treeTable HP w 11 an 1 182 (st TF 114 2284 w os) (piecesOf stG envT cT ⟨78, 0, 78, 13⟩ BB) = some (.next, st TG 150 2332 w os, cT, ⟨106, 0, 134, 96⟩) := by
  show segRunT treeTable HP w 11 an 1 182 (st TF 114 2284 w os) ⟨(execs stG envT).wrap doneF deadEnd id id, cT, ⟨78, 0, 78, 13⟩, BB⟩ = _
  rw [Fast.te10110043849684766642, Fast.te14364793385576792824, Fast.te12563942051412417395]
  kernel_rfl
theorem preA (w : World) (os : OsState) : topGo treeTable HP w 11 an 12 ⟨boot_heap w.params, #[], boot_drawn, boot_toks, os⟩ (topStub HP) = some ((st TA 15 187 w os).abs, ⟨denote treeTable cT, cT, ⟨0, 0, 0, 0⟩, BB⟩) := by
  rw [Fast.te15667345088766844465, Fast.te14364793385576792824, Fast.te11892475500146522536]
  kernel_rfl
theorem blockB (w : World) (os : OsState) : segRun treeTable HP w 11 an 1 1 (st TA 15 187 w os).abs (blockOf HP.main.body envT cT ⟨0, 0, 0, 0⟩ BB) = some (.next, (st TB 15 187 w os).abs, cT, ⟨0, 0, 0, 0⟩) := by
  rw [Fast.te14374325043358763698, Fast.te14364793385576792824]
  kernel_rfl
theorem finZ (w : World) (os : OsState) : topRun treeTable HP w 11 an 2 (st TG 150 2332 w os).abs ⟨doneF .next, cT, ⟨106, 0, 134, 96⟩, BB⟩ = some (st TG 150 2332 w os).abs := by
  rw [Fast.te14082659384304107361, Fast.te14364793385576792824]
  kernel_rfl
end T55

end
section
open PySem PySem.W PyProof.Rows PySem.Calls
namespace T55
set_option maxRecDepth 100000
set_option maxHeartbeats 0
set_option Elab.async false
noncomputable abbrev claimD (w : World) : Prop := ∀ os : OsState, segRunT treeTable HP w 11 an 1 999 (st TC 57 266 w os) (piecesOf stD envT cT ⟨74, 0, 74, 8⟩ BB) = some (.next, st TD 68 326 w os, cT, ⟨75, 0, 75, 6⟩)

theorem pieceD00 (w : World) : claimD ((w.withFollow "special-get-raises" false).withFollow "set-order" false) := fun os => by
  show segRunT treeTable HP _ 11 an 1 999 (st TC 57 266 _ os) ⟨(execs stD envT).wrap doneF deadEnd id id, cT, ⟨74, 0, 74, 8⟩, BB⟩ = _
  rw [Fast.te10110043849684766642, Fast.te14364793385576792824, Fast.te12563942051412417395]
  kernel_rfl
theorem pieceD01 (w : World) : claimD ((w.withFollow "special-get-raises" true).withFollow "set-order" false) := fun os => by
  show segRunT treeTable HP _ 11 an 1 999 (st TC 57 266 _ os) ⟨(execs stD envT).wrap doneF deadEnd id id, cT, ⟨74, 0, 74, 8⟩, BB⟩ = _
  rw [Fast.te10110043849684766642, Fast.te14364793385576792824, Fast.te12563942051412417395]
  kernel_rfl
theorem pieceD10 (w : World) : claimD ((w.withFollow "special-get-raises" false).withFollow "set-order" true) := fun os => by
  show segRunT treeTable HP _ 11 an 1 999 (st TC 57 266 _ os) ⟨(execs stD envT).wrap doneF deadEnd id id, cT, ⟨74, 0, 74, 8⟩, BB⟩ = _
  rw [Fast.te10110043849684766642, Fast.te14364793385576792824, Fast.te12563942051412417395]
  kernel_rfl
theorem pieceD11 (w : World) : claimD ((w.withFollow "special-get-raises" true).withFollow "set-order" true) := fun os => by
  show segRunT treeTable HP _ 11 an 1 999 (st TC 57 266 _ os) ⟨(execs stD envT).wrap doneF deadEnd id id, cT, ⟨74, 0, 74, 8⟩, BB⟩ = _
  rw [Fast.te10110043849684766642, Fast.te14364793385576792824, Fast.te12563942051412417395]
  kernel_rfl
theorem pieceD (w : World) : claimD w :=
  byRow2 "set-order" (P := claimD)
    (fun w => byRow2 "special-get-raises" (P := fun w' => claimD (w'.withFollow "set-order" false)) pieceD00 pieceD01 w)
    (fun w => byRow2 "special-get-raises" (P := fun w' => claimD (w'.withFollow "set-order" true)) pieceD10 pieceD11 w) w
end T55

end
section
open PySem PySem.W PyProof.Rows PySem.Calls
namespace T55
set_option maxRecDepth 100000
set_option maxHeartbeats 0
set_option Elab.async false
noncomputable def tgF : List Expr := match stmtAt 16 with | .Assign t _ _ => t | _ => []
noncomputable def dposF : Pos := match stmtAt 16 with | .Assign _ (.Dict _ _ p) _ => p | _ => ⟨0, 0, 0, 0⟩
noncomputable def aposF : Pos := match stmtAt 16 with | .Assign _ _ p => p | _ => ⟨0, 0, 0, 0⟩

theorem stmtF : stmtAt 16 = .Assign tgF (.Dict b3keys b3vals dposF) aposF := by kernel_rfl
theorem lit3 : litOk b3keys b3vals = some b3ds := by
  have : (litOk b3keys b3vals).isSome = true := by kernel_rfl
  obtain ⟨x, hx⟩ := Option.isSome_iff_exists.mp this
  unfold b3ds
  rw [hx]; rfl
theorem len3 : b3ds.length = 650 := by kernel_rfl
noncomputable def incB : Int → List (Int × Str) → Bool
  | _, [] => true
  | lo, d :: ds => decide (lo < d.1) && decide (d.1 < 1000000) && incB d.1 ds
theorem incB_inc : ∀ (ds : List (Int × Str)) (lo : Int), incB lo ds = true → Inc lo ds
  | [], _, _ => trivial
  | d :: ds, lo, h => by
    simp only [incB, Bool.and_eq_true, decide_eq_true_eq] at h
    exact ⟨h.1.1, h.1.2, incB_inc ds d.1 h.2⟩
theorem inc3 : Inc (-1) b3ds := incB_inc _ _ (by kernel_rfl)
theorem heapF (P : Params) : hp ((TE P).list 75) {} (dO (mainE 37 384 (b3ds.drop 17) (ents 333 (b3ds.take 17))) :: subsO 37 384 (b3ds.drop 17)) = absHeap (TF0 P) 114 {} := by kernel_rfl
theorem endF : endT 37 384 (b3ds.drop 17) = 2283 := by kernel_rfl
theorem baseF (P : Params) : ((TE P).list 75).length = 75 := by unfold BT.list; rw [List.length_map, List.length_range]
noncomputable def restF (v : Value) : Sem Flow := do assignStores envT v (← swappedStores tgF (.Dict b3keys b3vals dposF) envT) ((assignEach tgF envT).map (·.2))
theorem execF : exec (.Assign tgF (.Dict b3keys b3vals dposF) aposF) envT = ((do standAt aposF; eval (.Dict b3keys b3vals dposF) envT) >>= restF) := by
  rw [arm_exec_Assign, bind_assoc]
  have e : swapsWithSole tgF (.Dict b3keys b3vals dposF) aposF.line envT = pure false := by kernel_rfl
  rw [e]
  rfl
theorem segRun_mono {tb : String → Option Builtin} {p : Program} {w : World} {n₀ : Nat} {ann : Option Value} {b : Nat} (k : Nat) : ∀ (n : Nat) (s : Shared) (t : Thread) (r : Flow × Shared × Code × Pos), segRun tb p w n₀ ann b n s t = some r → segRun tb p w n₀ ann b (n + k) s t = some r
  | 0, _, _, _, h => by simp [segRun] at h
  | n + 1, s, t, r, h => by
    rw [show n + 1 + k = n + k + 1 by omega]
    unfold segRun at h ⊢
    cases ht : endAt b t with
    | some f => rw [ht] at h; exact h
    | none =>
      rw [ht] at h
      cases hk : stepOk n₀ ann t with
      | false => rw [hk] at h; cases h
      | true =>
        rw [hk] at h
        cases hs : step (denote tb) p w s t with
        | halt o s' => rw [hs] at h; cases h
        | go s' t' => rw [hs] at h; exact segRun_mono k n s' t' r h
noncomputable def kF : Flow → Sem Fin := fun f => match f with | .next => (execs [] envT).wrap doneF deadEnd id id | f => doneF f
theorem tailF (w : World) (os : OsState) (pos : Pos) : segRunT treeTable HP w 11 an 1 100 (st TF0 114 2283 w os) ⟨(restF (.ref 75)).wrap kF deadEnd id id, cT, pos, BB⟩ = some (.next, st TF 114 2284 w os, cT, ⟨78, 0, 78, 13⟩) := by
  rw [Fast.te10110043849684766642, Fast.te14364793385576792824]
  kernel_rfl
noncomputable def stF : List Stmt := (HP.main.body.drop 16).take 1
theorem stF_eq : stF = [stmtAt 16] := by kernel_rfl
theorem pieceF (w : World) (os : OsState) : segRun treeTable HP w 11 an 1 40000 (st TE 75 333 w os).abs (piecesOf stF envT cT ⟨76, 0, 77, 30⟩ BB) = some (.next, (st TF 114 2284 w os).abs, cT, ⟨78, 0, 78, 13⟩) := by
  have q : QR w 35302 (st TE 75 333 w os).abs (do standAt aposF; eval (.Dict b3keys b3vals dposF) envT) fun v s' => v = .ref 75 ∧ s' = (st TF0 114 2283 w os).abs := by
    refine q_mono (n := 1 + (900 * 37 + 2001)) (q_bind (q_stand ?_)) (by decide) fun _ _ x => x
    refine q_Dict (b := (TE w.params).list 75) (life := {}) (by rw [baseF]; decide) 37 lit3 (by rw [len3]; decide) (by rw [len3]; decide) ?_ (by rw [len3]; decide) inc3 ?_
    · show absHeap (TE w.params) 75 {} = _
      unfold hp absHeap
      rw [List.append_nil]
    · refine ⟨by rw [baseF], ?_⟩
      show Shared.mk (hp ((TE w.params).list 75) {} (dO (mainE 37 384 (b3ds.drop 17) (ents 333 (b3ds.take 17))) :: subsO 37 384 (b3ds.drop 17))) #[] dr0 (endT 37 384 (b3ds.drop 17)) os = _
      rw [heapF, endF]
      rfl
  rw [stF_eq, stmtF]
  show segRun treeTable HP w 11 an 1 40000 _ ⟨(execs [.Assign tgF (.Dict b3keys b3vals dposF) aposF] envT).wrap doneF deadEnd id id, cT, ⟨76, 0, 77, 30⟩, BB⟩ = _
  rw [execs_cons_wrap, execF, Sem.bind_eq_wrap', Sem.wrap_wrap]
  obtain ⟨k, a, s', p', hk, ⟨rfl, rfl⟩, hgo⟩ := q (fun v => (restF v).wrap kF deadEnd id id) (fun e => (Sem.raise e : Sem Flow).wrap kF deadEnd id id) (fun g => id (id g)) (fun l => id (id l)) cT ⟨76, 0, 77, 30⟩ BB (by decide)
  have t := segRun_of (tailF w os p')
  rw [table_eq_tree] at hgo
  have r := seg_go hgo t
  have m := segRun_mono (40000 - (k + 100)) _ _ _ _ r
  rw [show k + 100 + (40000 - (k + 100)) = 40000 by omega] at m
  exact m
end T55

end
section
open PySem PySem.W PyProof.Rows PySem.Calls
namespace T55
set_option maxRecDepth 100000
set_option maxHeartbeats 0
set_option Elab.async false
theorem bodyT : HP.main.body = stC ++ (stD ++ (stE ++ (stF ++ (stG ++ [])))) := by kernel_rfl
noncomputable abbrev NN : Nat := 50000
theorem runAll (w : World) (os : OsState) : topRun treeTable HP w 11 an (12 + (1 + (268 + (999 + (30 + (40000 + (182 + 2))))))) ⟨boot_heap w.params, #[], boot_drawn, boot_toks, os⟩ (topStub HP) = some (st TG 150 2332 w os).abs := by
  refine go_top (preA w os) ?_
  refine piece_block (blockB w os) ?_
  rw [bodyT]
  refine piece_app (segRun_of (pieceC w os)) ?_
  refine piece_app (segRun_of (pieceD w os)) ?_
  refine piece_app (segRun_of (pieceE w os)) ?_
  refine piece_app (pieceF w os) ?_
  refine piece_app (segRun_of (pieceG w os)) ?_
  exact finZ w os
noncomputable abbrev qv : Program := { HP with main := { HP.main with body := [stmtAt 23] } }
noncomputable def looseT : List Str := ["_MAX_STRING_SIZE", "_MOVE_COST", "_CASE_COST", "_substitution_cost", "_levenshtein_distance", "CHAR_MAX", "_grouping_intervals", "add", "sub", "countOf", "b1_set", "in_table_b1", "b3_exceptions", "map_table_b3", "_law_gone", "_law_typed", "_law_cut", "_law_masks"]
noncomputable abbrev XtT : Shared → Bool := fun _ => true
noncomputable abbrev YfT : Shared → Heap × Nat := fun s => (s.heap, s.toks)
noncomputable abbrev YaT : World → Heap × Nat := fun w => (absHeap (TG w.params) 150 {}, 2332)
theorem openT : ∀ w : World, (fencedOpening treeTable HP w NN).map (fun s => (s.heap, s.gens, s.drawn, s.toks)) = some (boot_heap w.params, Array.mk [], boot_drawn, boot_toks) :=
  boot_open (by kernel_rfl) (by decide) (fun s => by kernel_rfl)
theorem sizeT : ∀ w : World, ((boot_heap w.params).isNs mainGlobals && (#[] : Array GenState).size == 0, (boot_heap w.params).objs.size, (boot_heap w.params).nsMap mainGlobals "__annotations__") = (true, 11, an) := fun w => by kernel_rfl
theorem looksT1 (w : World) (os : OsState) : (staticsOk (importedModules HP.main.body) (boot_heap w.params) (absHeap (TG w.params) 150 {}) && namesBound HP (absHeap (TG w.params) 150 {}) && gensDone ⟨absHeap (TG w.params) 150 {}, #[], dr0, 2332, os⟩ && laidKept (boot_heap w.params) (absHeap (TG w.params) 150 {})) = true := by
  kernel_rfl
theorem looksT2 (w : World) (os : OsState) : openSeen qv looseT (importedModules HP.main.body) XtT true ⟨absHeap (TG w.params) 150 {}, #[], dr0, 2332, os⟩ = openGood qv looseT := by
  rw [Fast.te4187177175401517315]
  kernel_rfl
theorem left : LeftO HP qv looseT XtT YfT YaT NN :=
  LeftO.of_pieces (H₀ := boot_heap) (H₁ := fun P => absHeap (TG P) 150 {}) (gs₀ := #[]) (gs₁ := #[]) (d₀ := boot_drawn) (d₁ := dr0) (k₀ := boot_toks) (k₁ := 2332) openT sizeT runAll (by decide)
    (fun w => funext fun os => by rw [looksT1, looksT2])
end T55

end
section
open PySem PySem.W PyProof.Rows PySem.Calls
namespace T55
set_option maxRecDepth 20000
set_option linter.unusedVariables false

noncomputable abbrev PW : Program := PySem.Challenge.pw_to0055_01

/-- plain data -/
inductive PV where
  | none
  | bool (b : Bool)
  | int (n : Int)
  | ge (n : Int) (T : Nat)
  | lt (n : Int) (T : Nat)
  | adr (a : Addr)
  | tl (l : List (Int × Nat))
  | str (x : Str)
  | list (l : List PV)
  | tup (l : List PV)

mutual
/-- a value bears the data in a heap -/
noncomputable def Rep (h : Heap) : PV → Value → Prop
  | .none, v => v = .none
  | .bool b, v => v = .bool b
  | .int n, v => ∃ t, v = .int n t
  | .ge n T, v => ∃ t : Nat, T ≤ t ∧ v = .int n t
  | .lt n T, v => ∃ t : Nat, 1 ≤ t ∧ t < T ∧ v = .int n t
  | .adr a, v => v = .ref a
  | .tl l, v => ∃ a, v = .ref a ∧ h.PlainList a (l.map fun p => Value.int p.1 p.2).toArray
  | .str x, v => ∃ t, v = .str x t
  | .list l, v => ∃ a vs, v = .ref a ∧ h.PlainList a (List.toArray vs) ∧ RepL h l vs
  | .tup l, v => ∃ a vs, v = .ref a ∧ h.IsTuple a (List.toArray vs) ∧ RepL h l vs
noncomputable def RepL (h : Heap) : List PV → List Value → Prop
  | [], vs => vs = []
  | p :: ps, vs => ∃ v r, vs = v :: r ∧ Rep h p v ∧ RepL h ps r
end

noncomputable def Ext (h h' : Heap) : Prop := ∀ b o, h.get? b = some o → h'.get? b = some o
theorem Ext.refl (h : Heap) : Ext h h := fun _ _ e => e
theorem Ext.trans {h h' h'' : Heap} (a : Ext h h') (b : Ext h' h'') : Ext h h'' := fun _ _ e => b _ _ (a _ _ e)

mutual
theorem Rep.ext {h h' : Heap} (k : Ext h h') : ∀ {p : PV} {v : Value}, Rep h p v → Rep h' p v
  | .none, _, r => by simpa only [Rep] using r
  | .bool _, _, r => by simpa only [Rep] using r
  | .int _, _, r => by simpa only [Rep] using r
  | .ge _ _, _, r => by simpa only [Rep] using r
  | .lt _ _, _, r => by simpa only [Rep] using r
  | .adr _, _, r => by simpa only [Rep] using r
  | .tl _, _, r => by 
    simp only [Rep] at r ⊢
    obtain ⟨a, rfl, hl⟩ := r
    exact ⟨a, rfl, hl.at fun o e => k _ _ e⟩
  | .str _, _, r => by simpa only [Rep] using r
  | .list l, _, r => by
    simp only [Rep] at r ⊢
    obtain ⟨a, vs, rfl, hl, hr⟩ := r
    exact ⟨a, vs, rfl, hl.at fun o e => k _ _ e, RepL.ext k hr⟩
  | .tup l, _, r => by
    simp only [Rep] at r ⊢
    obtain ⟨a, vs, rfl, hl, hr⟩ := r
    exact ⟨a, vs, rfl, hl.at fun o e => k _ _ e, RepL.ext k hr⟩
theorem RepL.ext {h h' : Heap} (k : Ext h h') : ∀ {l : List PV} {vs : List Value}, RepL h l vs → RepL h' l vs
  | [], _, r => by simpa only [RepL] using r
  | p :: ps, _, r => by
    simp only [RepL] at r ⊢
    obtain ⟨v, q, rfl, h1, h2⟩ := r
    exact ⟨v, q, rfl, h1.ext k, h2.ext k⟩
end

theorem RepL.length {h : Heap} : ∀ {l : List PV} {vs : List Value}, RepL h l vs → vs.length = l.length
  | [], _, r => by simp only [RepL] at r; rw [r]; rfl
  | p :: ps, _, r => by
    simp only [RepL] at r
    obtain ⟨v, q, rfl, h1, h2⟩ := r
    rw [List.length_cons, List.length_cons, RepL.length h2]
theorem RepL.get {h : Heap} : ∀ {l : List PV} {vs : List Value}, RepL h l vs → ∀ {i : Nat} {p : PV}, l[i]? = some p → ∃ v, vs[i]? = some v ∧ Rep h p v
  | [], _, _, i, p, e => by simp at e
  | q :: ps, _, r, i, p, e => by
    simp only [RepL] at r
    obtain ⟨v, z, rfl, h1, h2⟩ := r
    cases i with
    | zero => simp at e; subst e; exact ⟨v, rfl, h1⟩
    | succ i => simp at e; obtain ⟨u, hu, hr⟩ := RepL.get h2 e; exact ⟨u, by simpa using hu, hr⟩
theorem RepL.append {h : Heap} : ∀ {l l' : List PV} {vs vs' : List Value}, RepL h l vs → RepL h l' vs' → RepL h (l ++ l') (vs ++ vs')
  | [], _, _, _, r, r' => by simp only [RepL] at r; subst r; exact r'
  | q :: ps, _, _, _, r, r' => by
    simp only [RepL] at r
    obtain ⟨v, z, rfl, h1, h2⟩ := r
    exact ⟨v, _, rfl, h1, RepL.append h2 r'⟩
theorem RepL.snoc {h : Heap} {l : List PV} {vs : List Value} {p : PV} {v : Value} (r : RepL h l vs) (q : Rep h p v) : RepL h (l ++ [p]) (vs ++ [v]) :=
  r.append ⟨v, [], rfl, q, rfl⟩
/-- the state has only grown -/
noncomputable def Kp (s s' : Shared) : Prop := ∃ h' tk, s' = { s with heap := h', toks := tk } ∧ Ext s.heap h' ∧ s.toks ≤ tk
theorem Kp.refl (s : Shared) : Kp s s := ⟨s.heap, s.toks, rfl, Ext.refl _, Nat.le_refl _⟩
theorem Kp.trans {s s' s'' : Shared} (a : Kp s s') (b : Kp s' s'') : Kp s s'' := by
  obtain ⟨h1, t1, rfl, e1, l1⟩ := a
  obtain ⟨h2, t2, rfl, e2, l2⟩ := b
  exact ⟨h2, t2, rfl, e1.trans e2, Nat.le_trans l1 l2⟩
theorem Kp.ext {s s' : Shared} (a : Kp s s') : Ext s.heap s'.heap := by obtain ⟨h1, t1, rfl, e1, l1⟩ := a; exact e1
theorem Kp.toks {s s' : Shared} (a : Kp s s') : s.toks ≤ s'.toks := by obtain ⟨h1, t1, rfl, e1, l1⟩ := a; exact l1
theorem Kp.tok (s : Shared) (n : Nat) : Kp s { s with toks := s.toks + n } := ⟨s.heap, _, rfl, Ext.refl _, Nat.le_add_right _ _⟩
theorem Kp.push (s : Shared) (o : Obj) : Kp s { s with heap := s.heap.push o } := ⟨_, _, rfl, fun _ _ e => Heap.get?_push_of_some _ e, Nat.le_refl _⟩

structure Ok (A : Around) (n : Nat) : Prop where
  handled : A.handled = none
  depth : A.depth + n < recursionLimit
  units : A.units + 10 * n + 10 < cLine
theorem Ok.mono {A : Around} {n m : Nat} (h : Ok A n) (le : m ≤ n) : Ok A m := ⟨h.1, by have := h.2; omega, by have := h.3; omega⟩

variable {w : World} {A : Around} {env : Env} {h₁ : Heap}

/-- an expression gives the data from every state that has grown out of the heap -/
structure EvP (w : World) (A : Around) (env : Env) (h₁ : Heap) (e : Expr) (d : PV) : Prop where
  run : ∀ (s : Shared) (E : Value → Shared → Prop), Ext h₁ s.heap → 1 ≤ s.toks →
    wpAny (model PW w) A (eval e env) (fun v s' => Rep s'.heap d v ∧ Kp s s') E s
structure TsP (w : World) (A : Around) (env : Env) (h₁ : Heap) (e : Expr) (b : Bool) : Prop where
  run : ∀ (s : Shared) (E : Value → Shared → Prop), Ext h₁ s.heap → 1 ≤ s.toks →
    wpAny (model PW w) A (PySem.isTrue e env (eval e env)) (fun r s' => r = b ∧ Kp s s') E s
noncomputable def OpP (w : World) (A : Around) (h₁ : Heap) (op : Operator) (d1 d2 d : PV) : Prop :=
  ∀ (s : Shared) (E : Value → Shared → Prop) (a b : Value), Ext h₁ s.heap → 1 ≤ s.toks → Rep s.heap d1 a → Rep s.heap d2 b →
    wpAny (model PW w) A (binaryOp op a b) (fun v s' => Rep s'.heap d v ∧ Kp s s') E s
noncomputable def CmP (w : World) (A : Around) (h₁ : Heap) (op : CmpOp) (d1 d2 : PV) (r : Bool) : Prop :=
  ∀ (s : Shared) (E : Value → Shared → Prop) (a b : Value), Ext h₁ s.heap → 1 ≤ s.toks → Rep s.heap d1 a → Rep s.heap d2 b →
    wpAny (model PW w) A (compareOp op a b) (fun v s' => v = .bool r ∧ Kp s s') E s

theorem EvP.ext {e : Expr} {d : PV} {h₂ : Heap} (h : EvP w A env h₁ e d) (k : Ext h₁ h₂) : EvP w A env h₂ e d := .mk fun s E x t => h.run s E (k.trans x) t
/-- to use it in a walk -/
theorem EvP.use {e : Expr} {d : PV} (h : EvP w A env h₁ e d) {s : Shared} {E : Value → Shared → Prop} {Q : Value → Shared → Prop} (x : Ext h₁ s.heap) (t : 1 ≤ s.toks)
    (hq : ∀ v s', Rep s'.heap d v → Kp s s' → Q v s') : wpAny (model PW w) A (eval e env) Q E s :=
  wpAny_mono (h.run s E x t) (fun v s' q => hq v s' q.1 q.2) fun _ _ y => y
theorem TsP.use {e : Expr} {b : Bool} (h : TsP w A env h₁ e b) {s : Shared} {E : Value → Shared → Prop} {Q : Bool → Shared → Prop} (x : Ext h₁ s.heap) (t : 1 ≤ s.toks)
    (hq : ∀ s', Kp s s' → Q b s') : wpAny (model PW w) A (PySem.isTrue e env (eval e env)) Q E s :=
  wpAny_mono (h.run s E x t) (fun v s' q => by rw [q.1]; exact hq s' q.2) fun _ _ y => y

theorem ev_int {i : Int} {k : Nat} {pos : Pos} : EvP w A env h₁ (.Constant (.int i) k pos) (.int i) := .mk fun s E _ t =>
  wpAny_Constant_int ⟨⟨s.toks, rfl⟩, Kp.tok s 1⟩
theorem ev_none {k : Nat} {pos : Pos} : EvP w A env h₁ (.Constant .none k pos) .none := .mk fun s E _ t =>
  wpAny_Constant_none ⟨rfl, Kp.refl s⟩
theorem ev_local {x : Str} {pos : Pos} {m : Str → Option Value} {v : Value} {d : PV} (hn : h₁.Ns env.locals m) (hv : m x = some v) (hr : Rep h₁ d v)
    (hk : env.scope.kind = .function) (hl : env.kindOf x = some .local) (hd : (x == ("__debug__" : Str)) = false) : EvP w A env h₁ (.Name x pos) d := .mk fun s E k t =>
  wpAny_Name (wpAny_loadName_local hk hl (hn.at fun o e => k _ _ e) hv ⟨hr.ext k, Kp.refl s⟩) hd
theorem ev_cell {x : Str} {pos : Pos} {c : Addr} {v : Value} {d : PV} (hc : h₁.IsCell c (some v)) (hr : Rep h₁ d v)
    (hk : env.scope.kind = .function) (hl : env.kindOf x = some .cell) (hx : env.cells.lookup x = some c) (hd : (x == ("__debug__" : Str)) = false) : EvP w A env h₁ (.Name x pos) d := .mk fun s E k t =>
  wpAny_Name (wpAny_loadName_cell hk hl hx (by obtain ⟨o, ho, hh⟩ := hc; exact ⟨o, k _ _ ho, hh⟩) ⟨hr.ext k, Kp.refl s⟩) hd
theorem ev_bin {e1 e2 : Expr} {op : Operator} {pos : Pos} {d1 d2 d : PV} (h1 : EvP w A env h₁ e1 d1) (h2 : EvP w A env h₁ e2 d2) (hop : OpP w A h₁ op d1 d2 d) :
    EvP w A env h₁ (.BinOp e1 op e2 pos) d := .mk fun s E k t =>
  wpAny_BinOp (h1.use k t fun a s₁ ra ka => h2.use (k.trans ka.ext) (Nat.le_trans t ka.toks) fun b s₂ rb kb =>
    wpAny_mono (hop s₂ _ a b (k.trans (ka.ext.trans kb.ext)) (Nat.le_trans t (Nat.le_trans ka.toks kb.toks)) (ra.ext kb.ext) rb)
      (fun v s' q => ⟨q.1, ka.trans (kb.trans q.2)⟩) fun _ _ y => y)

theorem op_add_int {a b : Int} : OpP w A h₁ .Add (.int a) (.int b) (.int (a + b)) := fun s E u v _ t ra rb => by
  obtain ⟨x, rfl⟩ := ra; obtain ⟨y, rfl⟩ := rb
  exact add_int ⟨⟨s.toks, rfl⟩, Kp.tok s 1⟩
theorem op_sub_int {a b : Int} : OpP w A h₁ .Sub (.int a) (.int b) (.int (a - b)) := fun s E u v _ t ra rb => by
  obtain ⟨x, rfl⟩ := ra; obtain ⟨y, rfl⟩ := rb
  exact sub_int ⟨⟨s.toks, rfl⟩, Kp.tok s 1⟩
theorem op_mul_int {a b : Int} (ok : IntMulOk a b) : OpP w A h₁ .Mult (.int a) (.int b) (.int (a * b)) := fun s E u v _ t ra rb => by
  obtain ⟨x, rfl⟩ := ra; obtain ⟨y, rfl⟩ := rb
  exact mul_int ⟨⟨s.toks, rfl⟩, Kp.tok s 1⟩ ok
theorem op_div_int {a b : Int} (hb : b ≠ 0) (hp : Builtin.divisionGoesByPylong a b = false) : OpP w A h₁ .FloorDiv (.int a) (.int b) (.int (Int.fdiv a b)) := fun s E u v _ t ra rb => by
  obtain ⟨x, rfl⟩ := ra; obtain ⟨y, rfl⟩ := rb
  exact floordiv_int hb ⟨⟨s.toks, rfl⟩, Kp.tok s 1⟩ (.inl hp)
theorem op_mod_int {a b : Int} (hb : b ≠ 0) : OpP w A h₁ .Mod (.int a) (.int b) (.int (Int.fmod a b)) := fun s E u v _ t ra rb => by
  obtain ⟨x, rfl⟩ := ra; obtain ⟨y, rfl⟩ := rb
  exact mod_int' hb ⟨⟨s.toks, rfl⟩, Kp.tok s 1⟩
theorem op_pow_int {a n : Int} (h0 : 0 ≤ n) (hb : ((Builtin.Int.intBits a : Nat) : Int) * n ≤ 2 ^ 27) : OpP w A h₁ .Pow (.int a) (.int n) (.int (a ^ n.toNat)) := fun s E u v _ t ra rb => by
  obtain ⟨x, rfl⟩ := ra; obtain ⟨y, rfl⟩ := rb
  exact pow_int h0 hb ⟨⟨s.toks, rfl⟩, Kp.tok s 1⟩

theorem wp_kp {α : Type} {s : Shared} {t : Sem α} {Q : α → Shared → Prop} {E : Value → Shared → Prop} (h : wpAny (model PW w) A t (fun a s' => Q a s' ∧ Keeps s s') E s) :
    wpAny (model PW w) A t (fun a s' => Q a s' ∧ Kp s s') E s :=
  wpAny_mono (wpAny_toks_of (Nat.le_refl s.toks) h) (fun a s' q => by
    obtain ⟨l, q1, h', tk, rfl, e⟩ := q
    exact ⟨q1, h', tk, rfl, e, l⟩) fun _ _ y => y.2

theorem op_add_str {a b : Str} (hsz : a.length + b.length ≤ sizeLine) : OpP w A h₁ .Add (.str a) (.str b) (.str (a ++ b)) := fun s E u v _ t ra rb => by
  obtain ⟨x, rfl⟩ := ra; obtain ⟨y, rfl⟩ := rb
  exact wp_kp (add_str (fun t' tk => ⟨⟨t', rfl⟩, s.heap, tk, rfl, fun _ _ e => e⟩) hsz)
end T55

end
section
open PySem PySem.W PyProof.Rows PySem.Calls
namespace T55
set_option maxRecDepth 20000
set_option linter.unusedVariables false
variable {w : World} {A : Around} {env : Env} {h₁ : Heap}

theorem wp_use {α : Type} {s : Shared} {t : Sem α} {P Q : α → Shared → Prop} {E : Value → Shared → Prop} (h : wpAny (model PW w) A t (fun a s' => P a s' ∧ Kp s s') E s)
    (hq : ∀ a s', P a s' → Kp s s' → Q a s') : wpAny (model PW w) A t Q E s := wpAny_mono h (fun a s' q => hq a s' q.1 q.2) fun _ _ y => y

-- comparisons
theorem cm_eq_int {a b : Int} : CmP w A h₁ .Eq (.int a) (.int b) (a == b) := fun s E u v _ t ra rb => by
  obtain ⟨x, rfl⟩ := ra; obtain ⟨y, rfl⟩ := rb
  exact eq_int ⟨rfl, Kp.refl s⟩
theorem cm_lt_int {a b : Int} : CmP w A h₁ .Lt (.int a) (.int b) (decide (a < b)) := fun s E u v _ t ra rb => by
  obtain ⟨x, rfl⟩ := ra; obtain ⟨y, rfl⟩ := rb
  exact lt_int ⟨rfl, Kp.refl s⟩
theorem cm_gt_int {a b : Int} : CmP w A h₁ .Gt (.int a) (.int b) (decide (b < a)) := fun s E u v _ t ra rb => by
  obtain ⟨x, rfl⟩ := ra; obtain ⟨y, rfl⟩ := rb
  exact gt_int ⟨rfl, Kp.refl s⟩
theorem cm_eq_str {a b : Str} : CmP w A h₁ .Eq (.str a) (.str b) (a == b) := fun s E u v _ t ra rb => by
  obtain ⟨x, rfl⟩ := ra; obtain ⟨y, rfl⟩ := rb
  exact eq_str ⟨rfl, Kp.refl s⟩
theorem ts_cmp {e1 e2 : Expr} {op : CmpOp} {pos : Pos} {d1 d2 : PV} {b : Bool} (h1 : EvP w A env h₁ e1 d1) (h2 : EvP w A env h₁ e2 d2) (hop : CmP w A h₁ op d1 d2 b)
    (hb : behindInMarks op e2 = false := by rfl) : TsP w A env h₁ (.Compare e1 [op] [e2] pos) b := .mk fun s E k t =>
  wpAny_isTrue_Compare1 (h1.use k t fun a s₁ ra ka => h2.use (k.trans ka.ext) (Nat.le_trans t ka.toks) fun c s₂ rb kb =>
    wp_use (hop s₂ _ a c (k.trans (ka.ext.trans kb.ext)) (Nat.le_trans t (Nat.le_trans ka.toks kb.toks)) (ra.ext kb.ext) rb)
      fun v s' q kc => by subst q; exact wpAny_truthy_bool ⟨rfl, ka.trans (kb.trans kc)⟩) hb
theorem ev_cmp {e1 e2 : Expr} {op : CmpOp} {pos : Pos} {d1 d2 : PV} {b : Bool} (h1 : EvP w A env h₁ e1 d1) (h2 : EvP w A env h₁ e2 d2) (hop : CmP w A h₁ op d1 d2 b)
    (hb : behindInMarks op e2 = false := by rfl) : EvP w A env h₁ (.Compare e1 [op] [e2] pos) (.bool b) := .mk fun s E k t =>
  wpAny_Compare1 (h1.use k t fun a s₁ ra ka => h2.use (k.trans ka.ext) (Nat.le_trans t ka.toks) fun c s₂ rb kb =>
    wp_use (hop s₂ _ a c (k.trans (ka.ext.trans kb.ext)) (Nat.le_trans t (Nat.le_trans ka.toks kb.toks)) (ra.ext kb.ext) rb)
      fun v s' q kc => by subst q; exact ⟨rfl, ka.trans (kb.trans kc)⟩) hb

-- tests
theorem ts_not {e : Expr} {pos : Pos} {b : Bool} (h : TsP w A env h₁ e b) : TsP w A env h₁ (.UnaryOp .Not e pos) (!b) := .mk fun s E k t =>
  wpAny_isTrue_Not (h.use k t fun s' q => ⟨rfl, q⟩)
theorem ts_or {a b : Expr} {pos : Pos} {x y : Bool} (ha : TsP w A env h₁ a x) (hb : x = false → TsP w A env h₁ b y) : TsP w A env h₁ (.BoolOp .Or [a, b] pos) (x || y) := .mk fun s E k t =>
  wpAny_isTrue_BoolOp (wpAny_allTrue_Or_cons (ha.use k t fun s' q => by
    cases x with
    | true => exact ⟨rfl, q⟩
    | false => exact wpAny_allTrue_Or_cons ((hb rfl).use (k.trans q.ext) (Nat.le_trans t q.toks) fun s'' q' => by
        cases y with
        | true => exact ⟨rfl, q.trans q'⟩
        | false => exact wpAny_allTrue_Or_nil ⟨rfl, q.trans q'⟩)))
theorem ts_and3 {a b c : Expr} {pos : Pos} {x y z : Bool} (ha : TsP w A env h₁ a x) (hb : x = true → TsP w A env h₁ b y) (hc : x = true → y = true → TsP w A env h₁ c z) :
    TsP w A env h₁ (.BoolOp .And [a, b, c] pos) (x && y && z) := .mk fun s E k t =>
  wpAny_isTrue_BoolOp (wpAny_allTrue_And_cons (ha.use k t fun s' q => by
    cases x with
    | false => exact ⟨rfl, q⟩
    | true => exact wpAny_allTrue_And_cons ((hb rfl).use (k.trans q.ext) (Nat.le_trans t q.toks) fun s'' q' => by
        cases y with
        | false => exact ⟨rfl, q.trans q'⟩
        | true => exact wpAny_allTrue_And_cons ((hc rfl rfl).use (k.trans (q.trans q').ext) (Nat.le_trans t (q.trans q').toks) fun s3 q3 => by
            cases z with
            | false => exact ⟨rfl, (q.trans q').trans q3⟩
            | true => exact wpAny_allTrue_And_nil ⟨rfl, (q.trans q').trans q3⟩))))

theorem ev_ifexp {c a b : Expr} {pos : Pos} {x : Bool} {d : PV} (hc : TsP w A env h₁ c x) (ha : x = true → EvP w A env h₁ a d) (hb : x = false → EvP w A env h₁ b d) :
    EvP w A env h₁ (.IfExp c a b pos) d := .mk fun s E k t =>
  wpAny_IfExp (hc.use k t fun s' q => by
    cases x with
    | true => exact (ha rfl).use (k.trans q.ext) (Nat.le_trans t q.toks) fun v s'' r q' => ⟨r, q.trans q'⟩
    | false => exact (hb rfl).use (k.trans q.ext) (Nat.le_trans t q.toks) fun v s'' r q' => ⟨r, q.trans q'⟩)

-- items
theorem ev_item_list {e1 e2 : Expr} {pos : Pos} {l : List PV} {k : Int} {d : PV} (h1 : EvP w A env h₁ e1 (.list l)) (h2 : EvP w A env h₁ e2 (.int k)) (h0 : 0 ≤ k) (h63 : k < 2 ^ 63)
    (hd : l[k.toNat]? = some d) (hs : ∀ o i, subscripted e2 false o i = operate [o, i] (getItem o i) := by intro _ _; rfl) : EvP w A env h₁ (.Subscript e1 e2 pos) d := .mk fun s E kx t =>
  Subscript_ (h1.use kx t fun o s₁ ro ko => h2.use (kx.trans ko.ext) (Nat.le_trans t ko.toks) fun i s₂ ri ki => by
    obtain ⟨u, rfl⟩ := ri
    obtain ⟨a, vs, rfl, hl, hr⟩ := ro.ext ki.ext
    obtain ⟨x, hx, rx⟩ := RepL.get hr hd
    exact tail_any hl.isList.typeIs slot_list_getitem.lookup (wpAny_getItem_list hl.isList h0 h63 (by simpa using hx) ⟨rx, ko.trans ki⟩) (hs _ _))
theorem seqIndex_pos {k : Int} {n : Nat} (h0 : 0 ≤ k) (hk : k < n) : seqIndex? k n = some k.toNat := by
  unfold seqIndex?
  have : ¬ k < 0 := by omega
  simp only [this, if_false]
  simp [h0, hk]
theorem ev_item_tup {e1 e2 : Expr} {pos : Pos} {l : List PV} {k : Int} {d : PV} (h1 : EvP w A env h₁ e1 (.tup l)) (h2 : EvP w A env h₁ e2 (.int k)) (h0 : 0 ≤ k) (h63 : k < 2 ^ 63)
    (hd : l[k.toNat]? = some d) (hs : ∀ o i, subscripted e2 false o i = operate [o, i] (getItem o i) := by intro _ _; rfl) : EvP w A env h₁ (.Subscript e1 e2 pos) d := .mk fun s E kx t =>
  Subscript_ (h1.use kx t fun o s₁ ro ko => h2.use (kx.trans ko.ext) (Nat.le_trans t ko.toks) fun i s₂ ri ki => by
    obtain ⟨u, rfl⟩ := ri
    obtain ⟨a, vs, rfl, hl, hr⟩ := ro.ext ki.ext
    obtain ⟨x, hx, rx⟩ := RepL.get hr hd
    have hlen := hr.length
    have hlt : k.toNat < l.length := by
      rcases Nat.lt_or_ge k.toNat l.length with q | q
      · exact q
      · rw [List.getElem?_eq_none q] at hd; cases hd
    exact item_tupleT hl (by omega) h63 (seqIndex_pos h0 (by omega)) hx ⟨rx, ko.trans ki⟩ (hs _ _))
theorem ev_item_str {e1 e2 : Expr} {pos : Pos} {x : Str} {k : Int} (h1 : EvP w A env h₁ e1 (.str x)) (h2 : EvP w A env h₁ e2 (.int k)) (hr : fitsSsize k = true) (hlo : -(x.length : Int) ≤ k) (hhi : k < x.length)
    (hs : ∀ o i, subscripted e2 false o i = operate [o, i] (getItem o i) := by intro _ _; rfl) (ht : ∀ o r, letTemporaryGo e1 o r = pure () := by intro _ _; rfl) : EvP w A env h₁ (.Subscript e1 e2 pos) (.str (Txt.item x k)) := .mk fun s E kx t =>
  Subscript_ (h1.use kx t fun o s₁ ro ko => h2.use (kx.trans ko.ext) (Nat.le_trans t ko.toks) fun i s₂ ri ki => by
    obtain ⟨u, rfl⟩ := ri
    obtain ⟨a, rfl⟩ := ro
    exact item_str hr hlo hhi (fun _ => ⟨⟨_, rfl⟩, (ko.trans ki).trans (Kp.tok s₂ 1)⟩) (hs _ _) (ht _))

-- slices of a text
structure PartP (w : World) (A : Around) (env : Env) (h₁ : Heap) (e : Option Expr) (d : Option Int) : Prop where
  run : ∀ (s : Shared) (E : Value → Shared → Prop), Ext h₁ s.heap → 1 ≤ s.toks →
    wpAny (model PW w) A (evalPart e env) (fun v s' => (∃ p : Option (Int × Tok), v = partValue p ∧ p.map (·.1) = d) ∧ Kp s s') E s
theorem part_none : PartP w A env h₁ none none := .mk fun s E _ _ => wpAny_pure ⟨⟨none, rfl, rfl⟩, Kp.refl s⟩
theorem part_some {e : Expr} {n : Int} (h : EvP w A env h₁ e (.int n)) : PartP w A env h₁ (some e) (some n) := .mk fun s E k t => by
  show wpAny _ _ (eval e env) _ _ _
  exact h.use k t fun v s' r q => by obtain ⟨u, rfl⟩ := r; exact ⟨⟨some (n, u), rfl, rfl⟩, q⟩
theorem sliceMade_txt {x : Str} {t : Tok} {l u : Option (Int × Tok)} {s : Shared} {Q : Value → Shared → Prop} (h : ∀ t' tk, s.toks ≤ tk → Q (.str (Txt.slice x (l.map (·.1)) (u.map (·.1))) t') { s with toks := tk }) (hsz : x.length ≤ sizeLine) :
    (sliceMade x t l u none).post Q s := by
  unfold sliceMade slicePicked
  unfold Txt.slice at h
  simp only [Option.map_none, Option.getD_none] at h ⊢
  split
  · rename_i e
    rw [if_pos e] at h
    exact h t s.toks (Nat.le_refl _)
  · rename_i e
    rw [if_neg e] at h
    refine ⟨?_, h _ _ (Nat.le_succ _)⟩
    have e1 := sliceIndices_le (l.map (·.1)) (u.map (·.1)) x.length
    have e2 : ((Builtin.Str.strSliceIndices (l.map (·.1)) (u.map (·.1)) 1 x.length).filterMap (x.cps[·]?)).length ≤ (Builtin.Str.strSliceIndices (l.map (·.1)) (u.map (·.1)) 1 x.length).length := List.length_filterMap_le _ _
    show (Array.size _) ≤ sizeLine
    rw [List.size_toArray]
    exact Nat.le_trans e2 (Nat.le_trans e1 hsz)
theorem ev_slice_str {e : Expr} {lo hi : Option Expr} {p pos : Pos} {x : Str} {l u : Option Int} (h1 : EvP w A env h₁ e (.str x)) (hl : PartP w A env h₁ lo l) (hu : PartP w A env h₁ hi u)
    (hsz : x.length ≤ sizeLine) (ht : ∀ (o r : Value), letTemporaryGo e o r = pure () := by intro _ _; rfl) : EvP w A env h₁ (.Subscript e (.Slice lo hi none p) pos) (.str (Txt.slice x l u)) := .mk fun s E k t =>
  wpAny_Subscript_str_slice (h1.use k t fun o s₁ ro ko => wp_use (hl.run s₁ _ (k.trans ko.ext) (Nat.le_trans t ko.toks)) fun vl s₂ rl kl =>
    wp_use (hu.run s₂ _ (k.trans (ko.trans kl).ext) (Nat.le_trans t (ko.trans kl).toks)) fun vu s₃ ru ku => by
      obtain ⟨tx, rfl⟩ := ro
      obtain ⟨pl, rfl, el⟩ := rl
      obtain ⟨pu, rfl, eu⟩ := ru
      refine ⟨x, tx, pl, pu, rfl, rfl, rfl, sliceMade_txt (fun t' tk le => ?_) hsz⟩
      rw [el, eu]
      exact ⟨⟨t', rfl⟩, ((ko.trans kl).trans ku).trans ⟨_, tk, rfl, fun _ _ q => Heap.get?_push_of_some _ q, le⟩⟩) ht

-- slices of a list
theorem ispart_of (p : Option (Int × Tok)) : IsPart (partValue p) (p.map (·.1)) := by
  cases p with
  | none => exact .none
  | some q => obtain ⟨i, t⟩ := q; exact .int i t
noncomputable def pick {α : Type} (l : List α) (lo hi st : Option Int) : List α :=
  (sliceRange (sliceBounds lo hi st l.length).1 (sliceBounds lo hi st l.length).2.1 (sliceBounds lo hi st l.length).2.2).filterMap (l[·]?)
theorem RepL.pickAt {h : Heap} {l : List PV} {vs : List Value} (r : RepL h l vs) : ∀ is : List Nat, RepL h (is.filterMap (l[·]?)) (is.filterMap (vs[·]?))
  | [] => by simp [RepL]
  | i :: is => by
    cases e : l[i]? with
    | none =>
      have e' : vs[i]? = none := by
        rw [List.getElem?_eq_none_iff] at e ⊢
        rw [r.length]; exact e
      rw [List.filterMap_cons_none e, List.filterMap_cons_none e']
      exact RepL.pickAt r is
    | some d =>
      obtain ⟨v, hv, rv⟩ := r.get e
      rw [List.filterMap_cons_some e, List.filterMap_cons_some hv]
      exact ⟨v, _, rfl, rv, RepL.pickAt r is⟩
theorem slicePick_eq (vs : List Value) (lo hi st : Option Int) : slicePick vs.toArray lo hi st = (pick vs lo hi st).toArray := by
  unfold slicePick pick
  simp only [List.size_toArray]
  congr 2
  funext i
  simp
theorem RepL.pick {h : Heap} {l : List PV} {vs : List Value} (r : RepL h l vs) (lo hi st : Option Int) : RepL h (pick l lo hi st) (pick vs lo hi st) := by
  unfold T55.pick
  rw [r.length]
  exact r.pickAt _
theorem ev_slice_list {e : Expr} {lo hi : Option Expr} {p pos : Pos} {l : List PV} {a b : Option Int} (h1 : EvP w A env h₁ e (.list l)) (hl : PartP w A env h₁ lo a) (hu : PartP w A env h₁ hi b)
    (hsz : l.length ≤ sizeLine) (ht : ∀ (o r : Value), letTemporaryGo e o r = pure () := by intro _ _; rfl) : EvP w A env h₁ (.Subscript e (.Slice lo hi none p) pos) (.list (pick l a b none)) := .mk fun s E k t =>
  wpAny_Subscript_list_slice (h1.use k t fun o s₁ ro ko => wp_use (hl.run s₁ _ (k.trans ko.ext) (Nat.le_trans t ko.toks)) fun vl s₂ rl kl =>
    wp_use (hu.run s₂ _ (k.trans (ko.trans kl).ext) (Nat.le_trans t (ko.trans kl).toks)) fun vu s₃ ru ku => by
      obtain ⟨ad, vs, rfl, hL, hR⟩ := ro.ext (kl.trans ku).ext
      obtain ⟨pl, rfl, el⟩ := rl
      obtain ⟨pu, rfl, eu⟩ := ru
      refine ⟨ad, _, _, _, rfl, hL.isList, by rw [List.size_toArray, hR.length]; exact hsz, ispart_of pl, ispart_of pu, ?_⟩
      rw [el, eu, slicePick_eq]
      refine ⟨⟨_, pick vs a b none, rfl, ?_, ?_⟩, ((ko.trans kl).trans ku).trans ((Kp.push s₃ _).trans (Kp.push _ _))⟩
      · have this : ((s₃.heap.push { cls := .type "slice", data := .fields #[partValue pl, partValue pu, Value.none] }).push { cls := .type "list", data := .seq (pick vs a b none).toArray }).get? (s₃.heap.push { cls := .type "slice", data := .fields #[partValue pl, partValue pu, Value.none] }).objs.size = some { cls := .type "list", data := .seq (pick vs a b none).toArray } := Heap.get?_push_size _ rfl
        rw [Heap.size_push] at this
        exact ⟨_, this⟩
      · exact (hR.pick a b none).ext fun _ _ q => Heap.get?_push_of_some _ (Heap.get?_push_of_some _ q)) ht

-- displays, items evaluated in turn
noncomputable def ArgsP (w : World) (A : Around) (env : Env) (h₁ : Heap) : List Expr → List PV → Prop
  | [], [] => True
  | e :: es, d :: ds => (∀ rest, starEach (e :: rest) env = (false, eval e env) :: starEach rest env) ∧ EvP w A env h₁ e d ∧ ArgsP w A env h₁ es ds
  | _, _ => False
theorem ArgsP.run {pos : Pos} : ∀ {es : List Expr} {ds : List PV}, ArgsP w A env h₁ es ds → ∀ (s : Shared) (E : Value → Shared → Prop), Ext h₁ s.heap → 1 ≤ s.toks →
    wpAny (model PW w) A (spliced (backTo pos (starEach es env))) (fun vs s' => RepL s'.heap ds vs ∧ Kp s s') E s
  | [], [], _, s, E, _, _ => wpAny_pure ⟨rfl, Kp.refl s⟩
  | e :: es, d :: ds, ⟨h0, h1, h2⟩, s, E, k, t =>
    wpAny_items_cons (h1.use k t fun v s₁ r q => wp_use (ArgsP.run h2 s₁ _ (k.trans q.ext) (Nat.le_trans t q.toks)) fun vs s₂ rs q2 =>
      ⟨⟨v, vs, rfl, r.ext q2.ext, rs⟩, q.trans q2⟩) (h0 es)
  | [], _ :: _, h, _, _, _, _ => h.elim
  | _ :: _, [], h, _, _, _, _ => h.elim
theorem args_nil : ArgsP w A env h₁ [] [] := trivial
theorem args_cons {e : Expr} {es : List Expr} {d : PV} {ds : List PV} (h : EvP w A env h₁ e d) (r : ArgsP w A env h₁ es ds)
    (hs : ∀ rest, starEach (e :: rest) env = (false, eval e env) :: starEach rest env := by intro _; rfl) : ArgsP w A env h₁ (e :: es) (d :: ds) := ⟨hs, h, r⟩

theorem ev_tuple {es : List Expr} {n : Nat} {pos : Pos} {ds : List PV} (h : ArgsP w A env h₁ es ds) (hsz : ds.length ≤ sizeLine) : EvP w A env h₁ (.Tuple es n pos) (.tup ds) := .mk fun s E k t =>
  wpAny_Tuple_spliced (wp_use (h.run s _ k t) fun vs s₁ r q => ⟨by rw [r.length]; exact hsz,
    ⟨_, vs, rfl, ⟨_, Heap.get?_push_size _ rfl, rfl, _, rfl⟩, r.ext (Kp.push s₁ _).ext⟩, q.trans (Kp.push s₁ _)⟩)
-- calls
/-- a name that gives just this value -/
structure NmP (w : World) (A : Around) (env : Env) (h₁ : Heap) (e : Expr) (f : Value) : Prop where
  run : ∀ (s : Shared) (E : Value → Shared → Prop) (Q : Value → Shared → Prop), Ext h₁ s.heap → Q f s → wpAny (model PW w) A (eval e env) Q E s
/-- what a call gives -/
noncomputable def ClP (w : World) (A : Around) (h₁ : Heap) (f : Value) (ds : List PV) (d : PV) : Prop :=
  ∀ (s : Shared) (E : Value → Shared → Prop) (vs : List Value), Ext h₁ s.heap → 1 ≤ s.toks → RepL s.heap ds vs →
    wpAny (model PW w) A (call f vs) (fun v s' => Rep s'.heap d v ∧ Kp s s') E s
/-- the keeper of what is called -/
noncomputable def KeepsP (h₁ : Heap) (f : Value) : Prop := ∀ (M : Model) (h : Heap), Ext h₁ h → ∃ k, (k = Keeper.frame ∨ k = Keeper.machine ∨ k = Keeper.boundFrame) ∧ Looks M h (keeperOf f) k
theorem keeps_fn {a : Addr} {o : Obj} {fd : FuncData} (ho : h₁.get? a = some o) (hd : o.data = .func fd) : KeepsP h₁ (.ref a) := fun M h x =>
  ⟨.frame, .inl rfl, fun A' Q E s k hq => by
    unfold keeperOf
    refine wpAny_bind (wpAny_load (k _ _ (x _ _ ho)) ?_)
    rw [hd]
    exact wpAny_pure hq⟩
theorem keeps_val {f : Value} (hf : ∀ a, f ≠ .ref a) : KeepsP h₁ f := fun M h x =>
  ⟨.machine, .inr (.inl rfl), fun A' Q E s k hq => by
    unfold keeperOf
    cases f with
    | ref a => exact absurd rfl (hf a)
    | _ => exact wpAny_pure hq⟩
theorem backTo_plain {pos : Pos} : ∀ {es : List Expr} {ds : List PV}, ArgsP w A env h₁ es ds → (backTo pos (starEach es env)).any (·.1) = false
  | [], [], _ => rfl
  | e :: es, d :: ds, ⟨h0, h1, h2⟩ => by
    rw [h0]
    show (false || (backTo pos (starEach es env)).any (·.1)) = false
    rw [backTo_plain h2]; rfl
  | [], _ :: _, h => h.elim
  | _ :: _, [], h => h.elim
theorem ev_call {x : Str} {p pos : Pos} {args : List Expr} {f : Value} {ds : List PV} {d : PV} (hf : NmP w A env h₁ (.Name x p) f) (hk : KeepsP h₁ f) (ha : ArgsP w A env h₁ args ds) (hne : args ≠ []) (hc : ClP w A h₁ f ds d) :
    EvP w A env h₁ (.Call (.Name x p) args [] pos) d := .mk fun s E k t => by
  refine wpAny_Call_NameR (hf.run s _ _ k ?_)
  refine callWith_of (P := fun h => Ext h₁ h) (by rw [backTo_plain ha]; rfl) (fun h x => hk _ h x) ?_
  cases args with
  | nil => exact absurd rfl hne
  | cons e es =>
    cases ds with
    | nil => exact ha.elim
    | cons d0 ds =>
      have hp := ha.1 es
      have run := ha.run (pos := pos) s (E := E) k t
      rw [hp] at run ⊢
      exact evalArgs_plain (wp_use run fun vs s₁ r q => ⟨k.trans q.ext, wp_use (hc s₁ _ vs (k.trans q.ext) (Nat.le_trans t q.toks) r) fun v s' rv q' => ⟨rv, q.trans q'⟩⟩)
end T55

end
section
open PySem PySem.W PyProof.Rows PySem.Calls
namespace T55
set_option maxRecDepth 20000
set_option linter.unusedVariables false
variable {w : World} {A : Around} {env : Env} {h₁ : Heap}

mutual
/-- as Rep, every address within p -/
noncomputable def RepP (p : Addr → Prop) (h : Heap) : PV → Value → Prop
  | .none, v => v = .none
  | .bool b, v => v = .bool b
  | .int n, v => ∃ t, v = .int n t
  | .ge n T, v => ∃ t : Nat, T ≤ t ∧ v = .int n t
  | .lt n T, v => ∃ t : Nat, 1 ≤ t ∧ t < T ∧ v = .int n t
  | .adr a, v => v = .ref a
  | .tl l, v => ∃ a, v = .ref a ∧ p a ∧ h.PlainList a (l.map fun p => Value.int p.1 p.2).toArray
  | .str x, v => ∃ t, v = .str x t
  | .list l, v => ∃ a vs, v = .ref a ∧ p a ∧ h.PlainList a (List.toArray vs) ∧ RepPL p h l vs
  | .tup l, v => ∃ a vs, v = .ref a ∧ p a ∧ h.IsTuple a (List.toArray vs) ∧ RepPL p h l vs
noncomputable def RepPL (p : Addr → Prop) (h : Heap) : List PV → List Value → Prop
  | [], vs => vs = []
  | q :: ps, vs => ∃ v r, vs = v :: r ∧ RepP p h q v ∧ RepPL p h ps r
end
/-- the addresses that a heap does not hold -/
noncomputable abbrev Nw (h : Heap) : Addr → Prop := fun b => h.get? b = none
theorem Nw.of {h h' : Heap} (k : Ext h h') {b : Addr} (n : Nw h' b) : Nw h b := by
  cases e : h.get? b with
  | none => exact e
  | some o => have := k _ _ e; rw [n] at this; cases this
mutual
theorem RepP.imp {p p' : Addr → Prop} {h h' : Heap} (le : ∀ b, p b → p' b) (x : ∀ b o, p b → h.get? b = some o → h'.get? b = some o) : ∀ {q : PV} {v : Value}, RepP p h q v → RepP p' h' q v
  | .none, _, r => by simpa only [RepP] using r
  | .bool _, _, r => by simpa only [RepP] using r
  | .int _, _, r => by simpa only [RepP] using r
  | .ge _ _, _, r => by simpa only [RepP] using r
  | .lt _ _, _, r => by simpa only [RepP] using r
  | .adr _, _, r => by simpa only [RepP] using r
  | .tl _, _, r => by 
    simp only [RepP] at r ⊢
    obtain ⟨a, rfl, ha, hl⟩ := r
    exact ⟨a, rfl, le _ ha, hl.at fun o e => x _ _ ha e⟩
  | .str _, _, r => by simpa only [RepP] using r
  | .list l, _, r => by
    simp only [RepP] at r ⊢
    obtain ⟨a, vs, rfl, ha, hl, hr⟩ := r
    exact ⟨a, vs, rfl, le _ ha, hl.at fun o e => x _ _ ha e, RepPL.imp le x hr⟩
  | .tup l, _, r => by
    simp only [RepP] at r ⊢
    obtain ⟨a, vs, rfl, ha, hl, hr⟩ := r
    exact ⟨a, vs, rfl, le _ ha, hl.at fun o e => x _ _ ha e, RepPL.imp le x hr⟩
theorem RepPL.imp {p p' : Addr → Prop} {h h' : Heap} (le : ∀ b, p b → p' b) (x : ∀ b o, p b → h.get? b = some o → h'.get? b = some o) : ∀ {l : List PV} {vs : List Value}, RepPL p h l vs → RepPL p' h' l vs
  | [], _, r => by simpa only [RepPL] using r
  | q :: ps, _, r => by
    simp only [RepPL] at r ⊢
    obtain ⟨v, z, rfl, h1, h2⟩ := r
    exact ⟨v, z, rfl, h1.imp le x, h2.imp le x⟩
end
mutual
theorem RepP.rep {k : Addr → Prop} {h : Heap} : ∀ {p : PV} {v : Value}, RepP k h p v → Rep h p v
  | .none, _, r => by simpa only [RepP, Rep] using r
  | .bool _, _, r => by simpa only [RepP, Rep] using r
  | .int _, _, r => by simpa only [RepP, Rep] using r
  | .ge _ _, _, r => by simpa only [RepP, Rep] using r
  | .lt _ _, _, r => by simpa only [RepP, Rep] using r
  | .adr _, _, r => by simpa only [RepP, Rep] using r
  | .tl _, _, r => by 
    simp only [RepP] at r
    obtain ⟨a, rfl, ha, hl⟩ := r
    exact ⟨a, rfl, hl⟩
  | .str _, _, r => by simpa only [RepP, Rep] using r
  | .list l, _, r => by
    simp only [RepP] at r
    obtain ⟨a, vs, rfl, ha, hl, hr⟩ := r
    exact ⟨a, vs, rfl, hl, RepPL.rep hr⟩
  | .tup l, _, r => by
    simp only [RepP] at r
    obtain ⟨a, vs, rfl, ha, hl, hr⟩ := r
    exact ⟨a, vs, rfl, hl, RepPL.rep hr⟩
theorem RepPL.rep {k : Addr → Prop} {h : Heap} : ∀ {l : List PV} {vs : List Value}, RepPL k h l vs → RepL h l vs
  | [], _, r => by simpa only [RepPL, RepL] using r
  | p :: ps, _, r => by
    simp only [RepPL] at r
    obtain ⟨v, q, rfl, h1, h2⟩ := r
    exact ⟨v, q, rfl, h1.rep, h2.rep⟩
end
mutual
theorem Rep.toP {h : Heap} : ∀ {p : PV} {v : Value}, Rep h p v → RepP (fun b => (h.get? b).isSome = true) h p v
  | .none, _, r => by simpa only [RepP, Rep] using r
  | .bool _, _, r => by simpa only [RepP, Rep] using r
  | .int _, _, r => by simpa only [RepP, Rep] using r
  | .ge _ _, _, r => by simpa only [RepP, Rep] using r
  | .lt _ _, _, r => by simpa only [RepP, Rep] using r
  | .adr _, _, r => by simpa only [RepP, Rep] using r
  | .tl _, _, r => by 
    simp only [Rep] at r
    obtain ⟨a, rfl, hl⟩ := r
    exact ⟨a, rfl, by obtain ⟨o, ho⟩ := hl; rw [ho]; rfl, hl⟩
  | .str _, _, r => by simpa only [RepP, Rep] using r
  | .list l, _, r => by
    simp only [Rep] at r
    obtain ⟨a, vs, rfl, hl, hr⟩ := r
    exact ⟨a, vs, rfl, by obtain ⟨o, ho⟩ := hl; rw [ho]; rfl, hl, RepL.toP hr⟩
  | .tup l, _, r => by
    simp only [Rep] at r
    obtain ⟨a, vs, rfl, hl, hr⟩ := r
    exact ⟨a, vs, rfl, by obtain ⟨o, ho, _⟩ := hl; rw [ho]; rfl, hl, RepL.toP hr⟩
theorem RepL.toP {h : Heap} : ∀ {l : List PV} {vs : List Value}, RepL h l vs → RepPL (fun b => (h.get? b).isSome = true) h l vs
  | [], _, r => by simpa only [RepPL, RepL] using r
  | p :: ps, _, r => by
    simp only [RepL] at r
    obtain ⟨v, q, rfl, h1, h2⟩ := r
    exact ⟨v, q, rfl, h1.toP, h2.toP⟩
end
theorem RepPL.snoc {k : Addr → Prop} {h : Heap} : ∀ {l : List PV} {vs : List Value} {p : PV} {v : Value}, RepPL k h l vs → RepP k h p v → RepPL k h (l ++ [p]) (vs ++ [v])
  | [], _, p, v, r, q => by simp only [RepPL] at r; subst r; exact ⟨v, [], rfl, q, rfl⟩
  | a :: as, _, p, v, r, q => by
    simp only [RepPL] at r
    obtain ⟨u, z, rfl, h1, h2⟩ := r
    exact ⟨u, _, rfl, h1, RepPL.snoc h2 q⟩
theorem RepPL.length {k : Addr → Prop} {h : Heap} {l : List PV} {vs : List Value} (r : RepPL k h l vs) : vs.length = l.length := r.rep.length

/-- data that lie in no heap -/
noncomputable def Imm : PV → Prop
  | .list _ | .tup _ | .tl _ => False
  | _ => True
theorem RepP.imm {k : Addr → Prop} {h h' : Heap} : ∀ {p : PV} {v : Value}, Imm p → Rep h p v → RepP k h' p v
  | .none, _, _, r => by simpa only [Rep, RepP] using r
  | .bool _, _, _, r => by simpa only [Rep, RepP] using r
  | .int _, _, _, r => by simpa only [Rep, RepP] using r
  | .ge _ _, _, _, r => by simpa only [Rep, RepP] using r
  | .lt _ _, _, _, r => by simpa only [Rep, RepP] using r
  | .adr _, _, _, r => by simpa only [Rep, RepP] using r
  | .str _, _, _, r => by simpa only [Rep, RepP] using r
/-- an expression whose data are new -/
structure EvT (w : World) (A : Around) (env : Env) (h₁ : Heap) (T : Nat) (e : Expr) (d : PV) : Prop where
  run : ∀ (s : Shared) (E : Value → Shared → Prop), Ext h₁ s.heap → T ≤ s.toks →
    wpAny (model PW w) A (eval e env) (fun v s' => RepP (Nw s.heap) s'.heap d v ∧ Kp s s') E s
noncomputable abbrev EvF (w : World) (A : Around) (env : Env) (h₁ : Heap) (e : Expr) (d : PV) : Prop := EvT w A env h₁ 1 e d
theorem EvT.weak {T T' : Nat} {e : Expr} {d : PV} (h : EvT w A env h₁ T e d) (le : T ≤ T') : EvT w A env h₁ T' e d := .mk fun s E k t => h.run s E k (Nat.le_trans le t)
theorem EvF.ev {e : Expr} {d : PV} (h : EvF w A env h₁ e d) : EvP w A env h₁ e d := .mk fun s E k t => wp_use (h.run s E k t) fun v s' r q => ⟨r.rep, q⟩
theorem EvP.imm {e : Expr} {d : PV} (h : EvP w A env h₁ e d) (i : Imm d) : EvF w A env h₁ e d := .mk fun s E k t => h.use k t fun v s' r q => ⟨RepP.imm i r, q⟩
/-- kept but for one namespace -/
noncomputable def TK (C : Addr) (s s' : Shared) : Prop := ∃ h' tk, s' = { s with heap := h', toks := tk } ∧ (∀ b o, b ≠ C → s.heap.get? b = some o → h'.get? b = some o) ∧ (∃ m, h'.Ns C m) ∧ s.toks ≤ tk
theorem TK.trans {C : Addr} {s s' s'' : Shared} (a : TK C s s') (b : TK C s' s'') : TK C s s'' := by
  obtain ⟨h1, t1, rfl, e1, n1, l1⟩ := a
  obtain ⟨h2, t2, rfl, e2, n2, l2⟩ := b
  exact ⟨h2, t2, rfl, fun b o ne e => e2 b o ne (e1 b o ne e), n2, Nat.le_trans l1 l2⟩
theorem TK.of_kp {C : Addr} {s s' : Shared} {m : Str → Option Value} (hn : s.heap.Ns C m) (a : Kp s s') : TK C s s' := by
  obtain ⟨h1, t1, rfl, e1, l1⟩ := a
  exact ⟨h1, t1, rfl, fun b o _ e => e1 b o e, ⟨m, hn.at fun o e => e1 _ _ e⟩, l1⟩
theorem TK.toks {C : Addr} {s s' : Shared} (a : TK C s s') : s.toks ≤ s'.toks := by obtain ⟨h1, t1, rfl, e1, n1, l1⟩ := a; exact l1
theorem TK.ns {C : Addr} {s s' : Shared} (a : TK C s s') : ∃ m, s'.heap.Ns C m := by obtain ⟨h1, t1, rfl, e1, n1, l1⟩ := a; exact n1
theorem TK.get {C : Addr} {s s' : Shared} (a : TK C s s') {b : Addr} {o : Obj} (ne : b ≠ C) (e : s.heap.get? b = some o) : s'.heap.get? b = some o := by obtain ⟨h1, t1, rfl, e1, n1, l1⟩ := a; exact e1 b o ne e
theorem TK.ext {C : Addr} {s s' : Shared} (a : TK C s s') {h : Heap} (hC : h.get? C = none) (x : Ext h s.heap) : Ext h s'.heap := fun b o e =>
  a.get (by rintro rfl; rw [hC] at e; cases e) (x b o e)

/-- an iterator that gives D 0, D 1 .. D (n - 1); its own objects are fp -/
structure It (w : World) (A : Around) (h₀ : Heap) (T : Nat) (tg : Expr) (I : Addr) (fp : List Addr) (n : Nat) (D : Nat → PV) (St : Nat → Heap → Prop) : Prop where
  new : ∀ b ∈ fp, h₀.get? b = none
  live : ∀ i h, St i h → ∀ b ∈ fp, (h.get? b).isSome = true
  frame : ∀ i h h', St i h → (∀ b ∈ fp, ∀ o, h.get? b = some o → h'.get? b = some o) → St i h'
  item : ∀ i (s : Shared) (Q : Value → Shared → Prop) (E : Value → Shared → Prop), i < n → Ext h₀ s.heap → T ≤ s.toks → St i s.heap →
    (∀ v h' tk, RepP (fun b => (h₀.get? b).isSome = true ∨ s.heap.get? b = none) h' (D i) v → St (i + 1) h' → s.toks ≤ tk → (∀ b o, b ∉ fp → s.heap.get? b = some o → h'.get? b = some o) → Q v { s with heap := h', toks := tk }) →
    wpAny (model PW w) A (pyNext (.ref I)) (fun r s₁ => ∃ v, r = some v ∧ wpAny (model PW w) A (letOwnedTupleGo tg (.ref I) v) (fun _ s₂ => Q v s₂) E s₁) E s
  done : ∀ (s : Shared) (Q : Option Value → Shared → Prop) (E : Value → Shared → Prop), Ext h₀ s.heap → St n s.heap →
    (∀ h' tk, s.toks ≤ tk → (∀ b o, b ∉ fp → s.heap.get? b = some o → h'.get? b = some o) → Q none { s with heap := h', toks := tk }) → wpAny (model PW w) A (pyNext (.ref I)) Q E s
  iter : ∀ i (s : Shared) (Q : Value → Shared → Prop) (E : Value → Shared → Prop), St i s.heap → Q (.ref I) s → wpAny (model PW w) A (pyIter (.ref I)) Q E s
/-- what is iterated, evaluated -/
structure ItP (w : World) (A : Around) (env : Env) (h₁ : Heap) (T : Nat) (tg iter : Expr) (n : Nat) (D : Nat → PV) : Prop where
  run : ∀ (s : Shared) (E : Value → Shared → Prop), Ext h₁ s.heap → T ≤ s.toks →
    wpAny (model PW w) A (eval iter env) (fun x s₁ => wpAny (model PW w) A (pyIter x) (fun it s₂ => (∃ h₀ I fp St, it = .ref I ∧ Ext s.heap h₀ ∧ Ext h₀ s₂.heap ∧ It w A h₀ T tg I fp n D St ∧ St 0 s₂.heap) ∧ Kp s s₂) E s₁) E s

noncomputable abbrev testsOf (ifs : List Expr) (env : Env) : Sem Bool := forIn ifs true fun c r => if r = true then do let ok ← PySem.isTrue c env (eval c env); pure (ForInStep.yield ok) else pure (ForInStep.yield r)

/-- a turn behind the step of the iterator -/
noncomputable def TurnG (w : World) (A : Around) (target elt : Expr) (ifs : List Expr) (env : Env) (acc : Value) (I : Nat → Shared → Prop) (n : Nat) (Er : Value → Shared → Prop) (v : Value) (s : Shared) : Prop :=
  wpAny (model PW w) A (assign target env v) (fun _ s₂ => wpAny (model PW w) A (testsOf ifs env) (fun ok s₃ =>
    if ok = true then wpAny (model PW w) A (eval elt env) (fun x s₄ => wpAny (model PW w) A (call (.builtin "list.append") [acc, x]) (fun _ s₅ => ∃ m, m < n ∧ I m s₅) Er s₄) Er s₃
    else ∃ m, m < n ∧ I m s₃) Er s₂) Er s
theorem compLoop_gen {R : Result → Shared → Prop} {s : Shared} {elt target iter : Expr} {ifs : List Expr} {scope : Scope} {pos : Pos} {it acc : Value} {env : Env} (I : Nat → Shared → Prop)
    (turn : ∀ n s (Er : Value → Shared → Prop), I n s → wpAny (model PW w) A (pyNext it) (fun r s₁ => match r with
      | none => R (.ok .next) s₁
      | some v => wpAny (model PW w) A (letOwnedTupleGo target it v) (fun _ s₁' => TurnG w A target elt ifs env acc I n Er v s₁') Er s₁) Er s)
    (n : Nat) (h : I n s) :
    codeAny (model PW w) A (.compLoop (.ListComp elt [⟨target, iter, ifs, 0⟩] scope pos) 0 it acc env) R s := by
  refine codeAny_loop rfl I (fun n s hI => ?_) n h
  show wpAny _ A ((compTurn (.ListComp elt [⟨target, iter, ifs, 0⟩] scope pos) 0 it acc env).onRaise (fun x => do noteFrame x env; theTreesLotGoes x)) _ _ s
  refine wpAny_noted ?_
  rw [compTurn_list]
  refine wpAny_bind (wpAny_standAt (wpAny_bind (wpAny_mono (turn n s _ hI) (fun r s₁ h₁ => ?_) fun _ _ h' => h')))
  cases r with
  | none => exact wpAny_pure h₁
  | some v =>
    refine wpAny_bind (wpAny_mono h₁ (fun _ s₁' h₁' => ?_) fun _ _ h' => h')
    refine wpAny_bind (wpAny_mono h₁' (fun _ s₂ h₂ => wpAny_bind (wpAny_mono h₂ (fun ok s₃ h₃ => ?_) fun _ _ h' => h')) fun _ _ h' => h')
    cases ok with
    | false => exact wpAny_pure ⟨rfl, h₃⟩
    | true =>
      exact wpAny_bind (wpAny_bind (wpAny_mono h₃ (fun x s₄ h₄ => wpAny_bind (wpAny_mono h₄ (fun _ s₅ h₅ => wpAny_pure (wpAny_pure ⟨rfl, h₅⟩)) fun _ _ h' => h')) fun _ _ h' => h'))

/-- between the turns -/
noncomputable def CompI (s₂ : Shared) (fp : List Addr) (St : Nat → Heap → Prop) (C : Addr) (n : Nat) (keep : Nat → Bool) (R : Nat → PV) (m : Nat) (s' : Shared) : Prop :=
  ∃ i h' tk m' ys, s' = { s₂ with heap := h', toks := tk } ∧ i ≤ n ∧ m = n + 1 - i ∧ St i h' ∧ h'.PlainList s₂.heap.objs.size ys ∧ h'.Ns C m' ∧
    RepPL (fun b => s₂.heap.get? b = none ∧ b ≠ C ∧ b ≠ s₂.heap.objs.size) h' (((List.range i).filter keep).map R) ys.toList ∧ (∀ b o, b ∉ fp → b ≠ C → b ≠ s₂.heap.objs.size → s₂.heap.get? b = some o → h'.get? b = some o) ∧ s₂.toks ≤ tk
theorem range_succ_filter (keep : Nat → Bool) (R : Nat → PV) (i : Nat) : ((List.range (i + 1)).filter keep).map R = ((List.range i).filter keep).map R ++ (if keep i then [R i] else []) := by
  rw [List.range_succ, List.filter_append, List.map_append]
  congr 1
  cases h : keep i <;> simp [h]

/-- a list comprehension of one clause; its block is a plain namespace -/
theorem ev_comp {tg iter elt : Expr} {ifs : List Expr} {scope : Scope} {cl : List (Str × Addr)} {pos : Pos} {n : Nat} {D R : Nat → PV} {keep : Nat → Bool}
    (hclos : closureFor scope env = pure cl) (hcell : ∀ y ∈ scope.names, y.2 ≠ .cell) (hkind : scope.kind = .function)
    (hnames : ∀ y ∈ scope.names, y.2 = .local → scope.names.lookup y.1 = some .local)
    {T : Nat} (hT : 1 ≤ T) (hit : ItP w A env h₁ T tg iter n D) (hsz : n ≤ 1000)
    (turn : ∀ i, i < n → ∀ (C : Addr) (s : Shared) (E : Value → Shared → Prop) (v : Value), h₁.get? C = none → Ext h₁ s.heap → T ≤ s.toks → (∃ m, s.heap.Ns C m) → RepP (fun b => b ≠ C) s.heap (D i) v →
      wpAny (model PW w) A (assign tg (compEnvC scope cl C env) v) (fun _ s₂ => TK C s s₂ ∧ wpAny (model PW w) A (testsOf ifs (compEnvC scope cl C env)) (fun ok s₃ => ok = keep i ∧ TK C s₂ s₃ ∧
        (keep i = true → wpAny (model PW w) A (eval elt (compEnvC scope cl C env)) (fun y s₄ => RepP (Nw s.heap) s₄.heap (R i) y ∧ TK C s₃ s₄) E s₃)) E s₂) E s)
    (hs : ∀ x, foldedSetIterable iter env x = pure x := by intro _; rfl) :
    EvT w A env h₁ T (.ListComp elt [⟨tg, iter, ifs, 0⟩] scope pos) (.list (((List.range n).filter keep).map R)) := .mk fun s E k t => by
  rw [eval_ListComp]
  refine wpAny_comprehension_free (use := none) rfl hs hclos hkind hnames ?_
  refine wpAny_mono (hit.run s E k t) (fun xv s₁ z₁ => wpAny_mono z₁ (fun it s₂ z₂ => ?_) fun _ _ e => e) fun _ _ e => e
  obtain ⟨⟨h₀, I, fp, St, rfl, x0, x2, W, st0⟩, q2⟩ := z₂
  refine wpAny_newObj_type (wpAny_newFunctionEnv hcell (by intro y hy; simp at hy) (fun H₁ hns₁ hsb₁ => ?_) hkind)
  dsimp only at hns₁ hsb₁ ⊢
  generalize hH2 : s₂.heap.push { cls := .type "list", dict := none, data := .seq ([] : List Value).toArray } = H2 at hns₁ hsb₁ ⊢
  have hC : H2.objs.size = s₂.heap.objs.size + 1 := by rw [← hH2, Heap.size_push]
  have hDC : s₂.heap.objs.size ≠ H2.objs.size := by rw [hC]; exact Nat.ne_of_lt (Nat.lt_succ_self _)
  have hfp : ∀ b ∈ fp, b < s₂.heap.objs.size := fun b hb => by
    obtain ⟨o, ho⟩ := Option.isSome_iff_exists.mp (W.live 0 _ st0 b hb)
    exact Heap.lt_size ho
  have old : ∀ b o, s₂.heap.get? b = some o → H₁.get? b = some o := fun b o e =>
    hsb₁.extBut b o (by rw [hC]; exact Nat.ne_of_lt (Nat.lt_succ_of_lt (Heap.lt_size e))) (Heap.get?_push_of_some _ (hH2 ▸ Heap.get?_push_of_some _ e))
  have hacc : H₁.PlainList s₂.heap.objs.size #[] := ⟨_, hsb₁.extBut _ _ hDC (Heap.get?_push_of_some _ (hH2 ▸ Heap.get?_push_size _ rfl))⟩
  have hst₁ : St 0 H₁ := W.frame _ _ _ st0 fun b _ o e => old b o e
  have k2 : Ext h₁ s₂.heap := k.trans q2.ext
  have hC1 : h₁.get? H2.objs.size = none := by
    cases e : h₁.get? H2.objs.size with
    | none => rfl
    | some o => have := Heap.lt_size (k2 _ _ e); rw [hC] at this; exact absurd this (Nat.not_lt.mpr (Nat.le_succ _))
  have hDf : s₂.heap.objs.size ∉ fp := fun hm => Nat.lt_irrefl _ (hfp _ hm)
  have hCf : H2.objs.size ∉ fp := fun hm => by have := hfp _ hm; rw [hC] at this; exact Nat.lt_irrefl _ (Nat.lt_of_succ_lt this)
  have nF : ∀ b, s₂.heap.get? b = none → b ∉ fp := fun b hb hm => by
    have := W.live 0 _ st0 b hm
    rw [hb] at this; cases this
  have keepS : ∀ (h' : Heap), (∀ b o, b ∉ fp → b ≠ H2.objs.size → b ≠ s₂.heap.objs.size → s₂.heap.get? b = some o → h'.get? b = some o) → Ext h₀ h' := fun h' kk b o e => by
    have e2 := x2 b o e
    have lt := Heap.lt_size e2
    exact kk b o (fun hm => by have := W.new b hm; rw [e] at this; cases this) (by rw [hC]; exact Nat.ne_of_lt (Nat.lt_succ_of_lt lt)) (Nat.ne_of_lt lt) e2
  have loop : ∀ s₃ : Shared, s₃ = { s₂ with heap := H₁, toks := s₂.toks + ([] : List (Str × Value)).length } →
      codeAny (model PW w) A (.compLoop (.ListComp elt [⟨tg, iter, ifs, 0⟩] scope pos) 0 (.ref I) (.ref s₂.heap.objs.size) (compEnvC scope cl H2.objs.size env))
        (compPost (model PW w) A E none (fun v s' => RepP (Nw s.heap) s'.heap (.list (((List.range n).filter keep).map R)) v ∧ Kp s s') (.ref s₂.heap.objs.size) H2.objs.size) s₃ := by
    rintro s₃ rfl
    refine compLoop_gen (CompI s₂ fp St H2.objs.size n keep R) ?_ (n + 1)
      ⟨0, H₁, _, _, #[], rfl, Nat.zero_le _, rfl, hst₁, hacc, hns₁, by simp [RepPL], fun b o _ _ _ e => old b o e, Nat.le_refl _⟩
    rintro m s' Er ⟨i, h', tk, m', ys, rfl, hi, rfl, hst, hD, hN, hR, hk, htk⟩
    by_cases hlt : i < n
    · have tok : T ≤ tk := Nat.le_trans t (Nat.le_trans q2.toks htk)
      refine wpAny_mono (W.item i { s₂ with heap := h', toks := tk } (TurnG w A tg elt ifs (compEnvC scope cl H2.objs.size env) (.ref s₂.heap.objs.size) (CompI s₂ fp St H2.objs.size n keep R) (n + 1 - i) Er) Er hlt (keepS h' hk) tok hst fun v h₂ tk₂ rv hst₂ htk₂ hk₂ => ?_) (fun r s₁ z => ?_) fun _ _ e => e
      rotate_left
      · obtain ⟨v, rfl, z⟩ := z
        exact z
      have hk2 : ∀ b o, b ∉ fp → b ≠ H2.objs.size → b ≠ s₂.heap.objs.size → s₂.heap.get? b = some o → h₂.get? b = some o := fun b o x y z e => hk₂ b o x (hk b o x y z e)
      have hN2 : h₂.Ns H2.objs.size m' := hN.at' fun o e => hk₂ _ o hCf e
      have szC : H2.objs.size + 1 ≤ h₂.objs.size := Nat.succ_le_of_lt hN2.lt
      have hrC : ∀ b, ((h₀.get? b).isSome = true ∨ h'.get? b = none) → b ≠ H2.objs.size := fun b hb x => by
        subst x
        rcases hb with hb | hb
        · obtain ⟨o, ho⟩ := Option.isSome_iff_exists.mp hb
          have := Heap.lt_size (x2 _ _ ho)
          rw [hC] at this
          exact absurd this (Nat.not_lt.mpr (Nat.le_succ _))
        · obtain ⟨o, es, ep, ho, _⟩ := hN
          rw [ho] at hb; cases hb
      have nw2 : ∀ b, h₂.get? b = none → s₂.heap.get? b = none ∧ b ≠ H2.objs.size ∧ b ≠ s₂.heap.objs.size := fun b hb => by
        have n1 : b ≠ H2.objs.size := fun x => by
          subst x
          obtain ⟨o, es, ep, ho, _⟩ := hN2
          rw [ho] at hb; cases hb
        have n2 : b ≠ s₂.heap.objs.size := fun x => by
          subst x
          obtain ⟨o, ho⟩ := hD
          rw [hk₂ _ _ hDf ho] at hb; cases hb
        refine ⟨?_, n1, n2⟩
        cases e : s₂.heap.get? b with
        | none => rfl
        | some o =>
          by_cases hm : b ∈ fp
          · have := W.live _ _ hst₂ b hm
            rw [hb] at this; cases this
          · have := hk2 b o hm n1 n2 e
            rw [hb] at this; cases this
      unfold TurnG
      refine wpAny_mono (turn i hlt H2.objs.size { s₂ with heap := h₂, toks := tk₂ } Er v hC1 (fun b o e => keepS h₂ hk2 b o (x0 b o (k b o e))) (Nat.le_trans tok htk₂) ⟨m', hN2⟩ (rv.imp hrC fun _ _ _ e => e)) (fun _ s₂' z => ?_) fun _ _ e => e
      obtain ⟨tk1, z⟩ := z
      refine wpAny_mono z (fun ok s₃ z => ?_) fun _ _ e => e
      obtain ⟨rfl, tk2, z⟩ := z
      -- what is known behind the tests
      have fin : ∀ (s₄ : Shared), TK H2.objs.size { s₂ with heap := h₂, toks := tk₂ } s₄ → ∃ h₄ tk₄ m₄, s₄ = { s₂ with heap := h₄, toks := tk₄ } ∧ St (i + 1) h₄ ∧ h₄.PlainList s₂.heap.objs.size ys ∧ h₄.Ns H2.objs.size m₄ ∧
          RepPL (fun b => s₂.heap.get? b = none ∧ b ≠ H2.objs.size ∧ b ≠ s₂.heap.objs.size) h₄ (((List.range i).filter keep).map R) ys.toList ∧ (∀ b o, b ∉ fp → b ≠ H2.objs.size → b ≠ s₂.heap.objs.size → s₂.heap.get? b = some o → h₄.get? b = some o) ∧ s₂.toks ≤ tk₄ := fun s₄ q => by
        obtain ⟨h₄, tk₄, rfl, e4, ⟨m₄, n4⟩, l4⟩ := q
        refine ⟨h₄, tk₄, m₄, rfl, W.frame _ _ _ hst₂ fun b hb o e => e4 b o (fun x => hCf (x ▸ hb)) e, ?_, n4, ?_, fun b o x y z e => e4 b o y (hk2 b o x y z e), Nat.le_trans htk (Nat.le_trans htk₂ l4)⟩
        · exact (hD.at fun o e => hk₂ _ o hDf e).at fun o e => e4 _ o hDC e
        · exact hR.imp (fun _ x => x) fun b o hb e => e4 b o hb.2.1 (hk₂ b o (nF b hb.1) e)
      cases hkp : keep i with
      | false =>
        simp only [Bool.false_eq_true, if_false]
        obtain ⟨h₄, tk₄, m₄, rfl, a1, a2, a3, a4, a5, a6⟩ := fin s₃ (tk1.trans tk2)
        refine ⟨n + 1 - (i + 1), by omega, i + 1, h₄, tk₄, m₄, ys, rfl, hlt, rfl, a1, a2, a3, ?_, a5, a6⟩
        rw [range_succ_filter, hkp]
        simpa using a4
      | true =>
        simp only [if_true]
        refine wpAny_mono (z hkp) (fun y s₄ z => ?_) fun _ _ e => e
        obtain ⟨ry, tk3⟩ := z
        obtain ⟨h₄, tk₄, m₄, rfl, a1, a2, a3, a4, a5, a6⟩ := fin s₄ ((tk1.trans tk2).trans tk3)
        have hys : ys.size ≤ sizeLine := by
          have e1 := a4.length
          have e2 : (((List.range i).filter keep).map R).length ≤ i := by
            rw [List.length_map]
            exact Nat.le_trans (List.length_filter_le _ _) (by simp)
          have e4 : ys.toList.length = ys.size := by simp
          rw [sizeLine_eq]; omega
        refine wpAny_list_append_plain (hsz := hys) a2 fun h₅ hl₅ hs₅ => ?_
        refine ⟨n + 1 - (i + 1), by omega, i + 1, h₅, tk₄, m₄, ys.push y, rfl, hlt, rfl, ?_, hl₅, a3.sameBut hs₅ (Ne.symm hDC), ?_, fun b o x y z e => hs₅.extBut b o z (a5 b o x y z e), a6⟩
        · exact W.frame _ _ _ a1 fun b hb o e => hs₅.extBut b o (fun x => hDf (x ▸ hb)) e
        · rw [range_succ_filter, hkp]
          simp only [if_true, Array.toList_push]
          have up : ∀ b o, (s₂.heap.get? b = none ∧ b ≠ H2.objs.size ∧ b ≠ s₂.heap.objs.size) → h₄.get? b = some o → h₅.get? b = some o := fun b o hb e => hs₅.extBut b o hb.2.2 e
          exact RepPL.snoc (a4.imp (fun _ x => x) up) (ry.imp (fun b hb => nw2 b hb) fun b o hb e => up b o (nw2 b hb) e)
    · have hin : i = n := by omega
      subst hin
      refine W.done _ _ _ (keepS h' hk) hst fun h₂ tk₂ htk₂ hk₂ => ?_
      refine ⟨m', hN.at' fun o e => hk₂ _ o hCf e, fun h₃ hs₃ => ⟨⟨_, ys.toList, rfl, Nw.of q2.ext (Heap.get?_none_of_le (Nat.le_refl _)), ?_, ?_⟩, ?_⟩⟩
      · have := ((hD.at fun o e => hk₂ _ o hDf e).extBut hs₃.extBut hDC)
        simpa using this
      · exact hR.imp (fun b hb => Nw.of q2.ext hb.1) fun b o hb e => hs₃.extBut b o hb.2.1 (hk₂ b o (nF b hb.1) e)
      · obtain ⟨h2, t2, rfl, e2, l2⟩ := q2
        refine ⟨h₃, tk₂, rfl, fun b o e => ?_, Nat.le_trans l2 (Nat.le_trans htk htk₂)⟩
        have e0 := x0 b o e
        have e2' := x2 b o e0
        have lt := Heap.lt_size e2'
        have nfp : b ∉ fp := fun hm => by have := W.new b hm; rw [e0] at this; cases this
        exact hs₃.extBut b o (by rw [hC]; exact Nat.ne_of_lt (Nat.lt_succ_of_lt lt)) (hk₂ b o nfp (keepS h' hk b o e0))
  exact codeAny_compStart_list (loop _ rfl) (W.iter 0 _ _ _ hst₁ (loop _ rfl))
end T55

end
section
open PySem PySem.W PyProof.Rows PySem.Calls
open AutoSeq1 (wpAny_loadPart')
namespace T55
set_option maxRecDepth 100000
set_option linter.unusedVariables false
variable {w : World} {A : Around} {env : Env} {h₁ : Heap} {T : Nat}

noncomputable def NoGo (tg : Expr) : Prop := ∀ it v, letOwnedTupleGo tg it v = pure ()
theorem noGo_name {x : Str} {p : Pos} : NoGo (.Name x p) := fun _ _ => rfl

noncomputable def nth (ds : List PV) (i : Nat) : PV := ds.getD i .none
theorem nth_some {ds : List PV} {i : Nat} (h : i < ds.length) : ds[i]? = some (nth ds i) := by
  unfold nth; rw [List.getD_eq_getElem?_getD, List.getElem?_eq_getElem h]; rfl

theorem it_list {h₀ : Heap} {tg : Expr} {I ax : Addr} {vs : List Value} {ds : List PV} (hh : A.handled = none) (hg : NoGo tg) (hl : h₀.IsList ax vs.toArray) (hr : RepL h₀ ds vs) (hI : h₀.get? I = none) :
    It w A h₀ T tg I [I] ds.length (nth ds) (fun i h => h.IsListIter I ax i) where
  new := fun b hb => by simp at hb; subst hb; exact hI
  live := fun i h st b hb => by simp at hb; subst hb; obtain ⟨o, ho, _⟩ := st; rw [ho]; rfl
  frame := fun i h h' st k => st.at fun o e => k I (by simp) o e
  item := fun i s Q E hi x t st hQ => by
    obtain ⟨v, hv, rv⟩ := hr.get (nth_some hi)
    refine wpAny_pyNext_list_item st (hl.at fun o e => x _ _ e) (x := v) (by simpa using hv) fun h' hit' hs' => ⟨v, rfl, ?_⟩
    rw [hg]
    exact wpAny_pure (hQ v h' s.toks (RepP.imp (fun _ y => .inl y) (fun b o y e => hs'.extBut b o (by rintro rfl; rw [hI] at y; cases y) (by obtain ⟨o', ho'⟩ := Option.isSome_iff_exists.mp y; rw [ho'] at e; cases e; exact x _ _ ho')) rv.toP) hit' (Nat.le_refl _) fun b o hb e => hs'.extBut b o (by simpa using hb) e)
  done := fun s Q E x st hQ => wpAny_pyNext_list_end hh st (hl.at fun o e => x _ _ e) (by simp [hr.length]) fun h' he' => hQ h' s.toks (Nat.le_refl _) fun b o hb e => he' b o (by simpa using hb) e
  iter := fun i s Q E st hQ => wpAny_pyIter_listiter st hQ
theorem it_tuple {h₀ : Heap} {tg : Expr} {I ax : Addr} {vs : List Value} {ds : List PV} (hh : A.handled = none) (hg : NoGo tg) (hl : h₀.IsTuple ax vs.toArray) (hr : RepL h₀ ds vs) (hI : h₀.get? I = none) :
    It w A h₀ T tg I [I] ds.length (nth ds) (fun i h => h.IsTupleIter I ax i) where
  new := fun b hb => by simp at hb; subst hb; exact hI
  live := fun i h st b hb => by simp at hb; subst hb; obtain ⟨o, ho, _⟩ := st; rw [ho]; rfl
  frame := fun i h h' st k => st.at fun o e => k I (by simp) o e
  item := fun i s Q E hi x t st hQ => by
    obtain ⟨v, hv, rv⟩ := hr.get (nth_some hi)
    refine wpAny_pyNext_tuple_item st (hl.at fun o e => x _ _ e) (x := v) (by simpa using hv) fun h' hit' hs' => ⟨v, rfl, ?_⟩
    rw [hg]
    exact wpAny_pure (hQ v h' s.toks (RepP.imp (fun _ y => .inl y) (fun b o y e => hs'.extBut b o (by rintro rfl; rw [hI] at y; cases y) (by obtain ⟨o', ho'⟩ := Option.isSome_iff_exists.mp y; rw [ho'] at e; cases e; exact x _ _ ho')) rv.toP) hit' (Nat.le_refl _) fun b o hb e => hs'.extBut b o (by simpa using hb) e)
  done := fun s Q E x st hQ => wpAny_pyNext_tuple_end hh st (hl.at fun o e => x _ _ e) (by simp [hr.length]) fun h' he' => hQ h' s.toks (Nat.le_refl _) fun b o hb e => he' b o (by simpa using hb) e
  iter := fun i s Q E st hQ => wpAny_pyIter_tupleiter st hQ
theorem it_range {h₀ : Heap} {tg : Expr} {I : Addr} {a c : Int} {n : Nat} (hh : A.handled = none) (hg : NoGo tg) (hI : h₀.get? I = none) :
    It w A h₀ T tg I [I] n (fun i => .int (a + i * c)) (fun i h => IsRangeIter h I (a + (i : Nat) * c) ((n : Int) - (i : Nat)) c) where
  new := fun b hb => by simp at hb; subst hb; exact hI
  live := fun i h st b hb => by simp at hb; subst hb; rw [st]; rfl
  frame := fun i h h' st k => k I (by simp) _ st
  item := fun i s Q E hi x t st hQ => by
    refine wpAny_pyNext_range_item st (by omega) fun h' hit' hs' => ⟨_, rfl, ?_⟩
    rw [hg]
    refine wpAny_pure (hQ _ h' _ ⟨s.toks, rfl⟩ ?_ (Nat.le_succ _) fun b o hb e => hs'.extBut b o (by simpa using hb) e)
    have e1 : a + ((i + 1 : Nat) : Int) * c = a + (i : Int) * c + c := by push_cast; rw [Int.add_mul, Int.one_mul, Int.add_assoc]
    have e2 : (n : Int) - ((i + 1 : Nat) : Int) = (n : Int) - (i : Int) - 1 := by push_cast; omega
    rw [e1, e2]; exact hit'
  done := fun s Q E x st hQ => wpAny_pyNext_range_end hh st (by omega) fun h' he' => hQ h' s.toks (Nat.le_refl _) fun b o hb e => he' b o (by simpa using hb) e
  iter := fun i s Q E st hQ => wpAny_pyIter_rangeiter st hQ

theorem it_rangeT {h₀ : Heap} {tg : Expr} {I : Addr} {a c : Int} {n : Nat} (hh : A.handled = none) (hg : NoGo tg) (hI : h₀.get? I = none) :
    It w A h₀ T tg I [I] n (fun i => .ge (a + i * c) T) (fun i h => IsRangeIter h I (a + (i : Nat) * c) ((n : Int) - (i : Nat)) c) where
  new := fun b hb => by simp at hb; subst hb; exact hI
  live := fun i h st b hb => by simp at hb; subst hb; rw [st]; rfl
  frame := fun i h h' st k => k I (by simp) _ st
  item := fun i s Q E hi x t st hQ => by
    refine wpAny_pyNext_range_item st (by omega) fun h' hit' hs' => ⟨_, rfl, ?_⟩
    rw [hg]
    refine wpAny_pure (hQ _ h' _ ⟨s.toks, t, rfl⟩ ?_ (Nat.le_succ _) fun b o hb e => hs'.extBut b o (by simpa using hb) e)
    have e1 : a + ((i + 1 : Nat) : Int) * c = a + (i : Int) * c + c := by push_cast; rw [Int.add_mul, Int.one_mul, Int.add_assoc]
    have e2 : (n : Int) - ((i + 1 : Nat) : Int) = (n : Int) - (i : Int) - 1 := by push_cast; omega
    rw [e1, e2]; exact hit'
  done := fun s Q E x st hQ => wpAny_pyNext_range_end hh st (by omega) fun h' he' => hQ h' s.toks (Nat.le_refl _) fun b o hb e => he' b o (by simpa using hb) e
  iter := fun i s Q E st hQ => wpAny_pyIter_rangeiter st hQ

theorem itp_list {iter tg : Expr} {ds : List PV} (hh : A.handled = none) (hg : NoGo tg) (h : EvP w A env h₁ iter (.list ds)) : ItP w A env h₁ 1 tg iter ds.length (nth ds) := .mk fun s E k t =>
  h.use k t fun x s₁ r q => by
    obtain ⟨ax, vs, rfl, hl, hr⟩ := r
    refine wpAny_pyIter_list hl.isList ⟨⟨s₁.heap, s₁.heap.objs.size, _, _, rfl, q.ext, (Kp.push s₁ _).ext, it_list hh hg hl.isList hr (Heap.get?_none_of_le (Nat.le_refl _)), ⟨_, Heap.get?_push_size _ rfl, rfl, rfl⟩⟩, q.trans (Kp.push s₁ _)⟩
noncomputable def sgn (x : Str) (i : Nat) : PV := .str ⟨#[x.cps.getD i 0]⟩
theorem itp_str {iter tg : Expr} {x : Str} (hh : A.handled = none) (hg : NoGo tg) (h : EvP w A env h₁ iter (.str x)) : ItP w A env h₁ 1 tg iter x.cps.size (sgn x) := .mk fun s E k t =>
  h.use k t fun xv s₁ r q => by
    obtain ⟨tx, rfl⟩ := r
    have W : ∀ I : Addr, Walks PW w A I [I] [I] x.cps.size (SignAt x) (fun i h => h.IsStrIter I (strIterType x) x tx i) := fun I => by
      unfold strIterType
      split
      · exact Walks.strAscii hh I x tx
      · exact Walks.strWide hh I x tx
    have alive : ∀ {i : Nat} {h : Heap} {I : Addr}, h.IsStrIter I (strIterType x) x tx i → (h.get? I).isSome = true := fun st => by obtain ⟨o, ho, _⟩ := st; rw [ho]; rfl
    refine wpAny_pyIter_strU ⟨⟨s₁.heap, s₁.heap.objs.size, [s₁.heap.objs.size], fun i h => h.IsStrIter s₁.heap.objs.size (strIterType x) x tx i, rfl, q.ext, (Kp.push s₁ _).ext, ?_, ⟨_, Heap.get?_push_size _ rfl, rfl, rfl⟩⟩, q.trans (Kp.push s₁ _)⟩
    have W := W s₁.heap.objs.size
    exact {
        new := fun b hb => by simp at hb; subst hb; exact Heap.get?_none_of_le (Nat.le_refl _)
        live := fun i h st b hb => by simp at hb; subst hb; exact alive st
        frame := fun i h h' st k => W.frame _ _ _ st k
        item := fun i s Q E hi xx t st hQ => by
          refine wpAny_mono (wpAny_toks_of (Nat.le_refl s.toks) (W.item i s (fun r s' => ∃ v h' tk, r = some v ∧ s' = { s with heap := h', toks := tk } ∧ SignAt x i v ∧ h'.IsStrIter s₁.heap.objs.size (strIterType x) x tx (i + 1) ∧ (∀ b o, b ∉ [s₁.heap.objs.size] → s.heap.get? b = some o → h'.get? b = some o)) E hi st fun v h' tk p st' kk => ⟨v, h', tk, rfl, rfl, p, st', kk⟩)) (fun r s' z => ?_) fun _ _ y => y.2
          obtain ⟨le, v, h', tk, rfl, rfl, p, st', kk⟩ := z
          refine ⟨v, rfl, ?_⟩
          rw [hg]
          refine wpAny_pure (hQ v h' tk ?_ st' le kk)
          obtain ⟨c, u, hc, rfl⟩ := p
          refine ⟨u, ?_⟩
          have : x.cps.getD i 0 = c := by rw [Array.getD_eq_getD_getElem?, hc]; rfl
          rw [this]
        done := fun s Q E xx st hQ => by
          refine wpAny_mono (wpAny_toks_of (Nat.le_refl s.toks) (W.done s (fun r s' => ∃ h' tk, r = none ∧ s' = { s with heap := h', toks := tk } ∧ (∀ b o, b ∉ [s₁.heap.objs.size] → s.heap.get? b = some o → h'.get? b = some o)) E st fun h' tk kk => ⟨h', tk, rfl, rfl, kk⟩)) (fun r s' z => ?_) fun _ _ y => y.2
          obtain ⟨le, h', tk, rfl, rfl, kk⟩ := z
          exact hQ h' tk le kk
        iter := fun i s Q E st hQ => W.self i s Q E st hQ }

-- range(..)
theorem rangeSize_up {a b : Int} (h : a ≤ b) : Builtin.Range.rangeSize a b 1 = b - a := by
  unfold Builtin.Range.rangeSize
  simp only [show (1 : Int) > 0 by decide, if_true]
  split
  · rw [Int.ediv_one]; omega
  · omega
theorem small_up {a b : Int} (h : a ≤ b) (ha : -1000000 ≤ a) (hb : b ≤ 1000000) : Builtin.Range.small a b 1 = true := by
  unfold Builtin.Range.small
  rw [rangeSize_up h]
  simp only [show (1 : Int) > 0 by decide, if_true, Bool.and_eq_true, Bool.or_eq_true]
  unfold Builtin.Range.rangeFitsLong
  simp only [Bool.and_eq_true, decide_eq_true_eq]
  refine ⟨⟨⟨⟨?_, ?_⟩, ?_⟩, ?_⟩, .inr ?_⟩ <;> omega
theorem itp_range {iter tg : Expr} {n : Nat} (hh : A.handled = none) (hg : NoGo tg) (hn : n ≤ 1000)
    (h : ∀ (s : Shared) (E : Value → Shared → Prop), Ext h₁ s.heap → 1 ≤ s.toks →
      wpAny (model PW w) A (eval iter env) (fun v s' => (∃ r t u x, v = .ref r ∧ IsRange s'.heap r 0 n 1 t u x) ∧ Kp s s') E s) : ItP w A env h₁ 1 tg iter n (fun i => .int i) := .mk fun s E k t =>
  wp_use (h s _ k t) fun x s₁ r q => by
    obtain ⟨r, t', u, y, rfl, hr⟩ := r
    have sm := small_up (a := 0) (b := (n : Int)) (by omega) (by omega) (by omega)
    have e := rangeSize_up (a := 0) (b := (n : Int)) (by omega)
    refine wpAny_pyIter_range hr sm ⟨⟨s₁.heap, s₁.heap.objs.size, [s₁.heap.objs.size], fun i h => IsRangeIter h s₁.heap.objs.size ((0 : Int) + (i : Nat) * 1) ((n : Int) - (i : Nat)) 1, rfl, q.ext, (Kp.push s₁ _).ext, ?_, ?_⟩, q.trans (Kp.push s₁ _)⟩
    · have := it_range (w := w) (A := A) (h₀ := s₁.heap) (T := 1) (tg := tg) (I := s₁.heap.objs.size) (a := 0) (c := 1) (n := n) hh hg (Heap.get?_none_of_le (Nat.le_refl _))
      simpa using this
    · have : (s₁.heap.push { cls := .type "range_iterator", data := .fields #[rawInt 0, rawInt (Builtin.Range.rangeSize 0 n 1), rawInt 1] }).get? s₁.heap.objs.size = some { cls := .type "range_iterator", data := .fields #[rawInt 0, rawInt (Builtin.Range.rangeSize 0 n 1), rawInt 1] } := Heap.get?_push_size _ rfl
      rw [e] at this ⊢
      simpa [IsRangeIter] using this

theorem itp_rangeT {iter tg : Expr} {n : Nat} (hh : A.handled = none) (hg : NoGo tg) (hn : n ≤ 1000) (hT : 1 ≤ T)
    (h : ∀ (s : Shared) (E : Value → Shared → Prop), Ext h₁ s.heap → 1 ≤ s.toks →
      wpAny (model PW w) A (eval iter env) (fun v s' => (∃ r t u x, v = .ref r ∧ IsRange s'.heap r 0 n 1 t u x) ∧ Kp s s') E s) : ItP w A env h₁ T tg iter n (fun i => .ge i T) := .mk fun s E k t =>
  wp_use (h s _ k (Nat.le_trans hT t)) fun x s₁ r q => by
    obtain ⟨r, t', u, y, rfl, hr⟩ := r
    have sm := small_up (a := 0) (b := (n : Int)) (by omega) (by omega) (by omega)
    have e := rangeSize_up (a := 0) (b := (n : Int)) (by omega)
    refine wpAny_pyIter_range hr sm ⟨⟨s₁.heap, s₁.heap.objs.size, [s₁.heap.objs.size], fun i h => IsRangeIter h s₁.heap.objs.size ((0 : Int) + (i : Nat) * 1) ((n : Int) - (i : Nat)) 1, rfl, q.ext, (Kp.push s₁ _).ext, ?_, ?_⟩, q.trans (Kp.push s₁ _)⟩
    · have := it_rangeT (w := w) (A := A) (h₀ := s₁.heap) (T := T) (tg := tg) (I := s₁.heap.objs.size) (a := 0) (c := 1) (n := n) hh hg (Heap.get?_none_of_le (Nat.le_refl _))
      simpa using this
    · have : (s₁.heap.push { cls := .type "range_iterator", data := .fields #[rawInt 0, rawInt (Builtin.Range.rangeSize 0 n 1), rawInt 1] }).get? s₁.heap.objs.size = some { cls := .type "range_iterator", data := .fields #[rawInt 0, rawInt (Builtin.Range.rangeSize 0 n 1), rawInt 1] } := Heap.get?_push_size _ rfl
      rw [e] at this ⊢
      simpa [IsRangeIter] using this

-- enumerate
theorem enum_next {e it : Addr} {i : Nat} {x old : Value} {s : Shared} {E : Value → Shared → Prop} {Q : Value → Shared → Prop} {J : Heap → Prop}
    (he : IsEnum s.heap e it i old) (hne : e ≠ it) (hJ : ∀ h h', J h → (∀ o, h.get? it = some o → h'.get? it = some o) → J h')
    (hn : ∀ (Q' : Value → Shared → Prop), (∀ h', J h' → Heap.SameBut it s.heap h' → Q' x { s with heap := h' }) → wpAny (model PW w) A (Builtin.SmallTypes.nextOf (.ref it)) Q' E s)
    (hQ : ∀ h', IsEnumOut h' e it ((i : Int) + 1) x s.heap.objs.size → J h' →
      h'.get? s.heap.objs.size = some { cls := .type "tuple", data := .seq #[.int i s.toks, x] } →
      (∀ b o, b ≠ e → b ≠ it → s.heap.get? b = some o → h'.get? b = some o) → Q (.ref s.heap.objs.size) { s with heap := h', toks := s.toks + 1 }) :
    wpAny (model PW w) A (Builtin.«enumerate.__next__» ⟨[.ref e], []⟩) (fun fin s' => ∃ v, fin = .done (.ret v) ∧ Q v s') E s := by
  obtain ⟨hp, g, d, tk, os⟩ := s
  show wpAny _ _ (field (.ref e) 2 >>= _) _ _ _
  refine wpAny_bind (wpAny_field he rfl (x := .ref it) rfl ?_)
  refine wpAny_bind (hn _ fun H1 j1 k1 => ?_)
  replace k1 : Heap.SameBut it hp H1 := k1
  have e1 : IsEnum H1 e it i old := (k1.2 e hne).trans he
  show wpAny _ _ (field (.ref e) 3 >>= _) _ _ ⟨H1, g, d, tk, os⟩
  refine wpAny_bind (wpAny_field e1 rfl (x := rawInt i) rfl ?_)
  show wpAny _ _ (field (.ref e) 4 >>= _) _ _ ⟨H1, g, d, tk, os⟩
  refine wpAny_bind (wpAny_field e1 rfl (x := .none) rfl ?_)
  show wpAny _ _ (mkInt i >>= _) _ _ ⟨H1, g, d, tk, os⟩
  refine wpAny_bind (wpAny_mkInt ?_)
  show wpAny _ _ (setField (.ref e) 3 (rawInt ((i : Int) + 1)) >>= _) _ _ ⟨H1, g, d, tk + 1, os⟩
  refine wpAny_bind (wpAny_setField_rec e1 (by simp) fun H2 e2 k2 => ?_)
  replace k2 : Heap.SameBut e H1 H2 := k2
  replace e2 : IsEnum H2 e it ((i : Int) + 1) old := e2
  show wpAny _ _ (setField (.ref e) 4 .none >>= _) _ _ ⟨H2, g, d, tk + 1, os⟩
  refine wpAny_bind (wpAny_setField_rec e2 (by simp) fun H3 e3 k3 => ?_)
  replace k3 : Heap.SameBut e H2 H3 := k3
  replace e3 : IsEnum H3 e it ((i : Int) + 1) old := e3
  show wpAny _ _ (newTuple [.int i tk, x] >>= _) _ _ ⟨H3, g, d, tk + 1, os⟩
  refine wpAny_bind (wpAny_newTuple ?_)
  have e4 : IsEnum (H3.push { cls := .type "tuple", data := .seq #[.int i tk, x] }) e it ((i : Int) + 1) old := Heap.get?_push_of_some _ e3
  have sz : H3.objs.size = hp.objs.size := by rw [k3.1, k2.1, k1.1]
  have el : e < hp.objs.size := Heap.lt_size he
  have t4 : (H3.push { cls := .type "tuple", data := .seq #[.int i tk, x] }).get? hp.objs.size = some { cls := .type "tuple", data := .seq #[.int i tk, x] } := by rw [← sz]; exact Heap.get?_push_size _ rfl
  have m4 : ∀ b o, b ≠ e → b ≠ it → hp.get? b = some o → (H3.push { cls := .type "tuple", data := .seq #[.int i tk, x] }).get? b = some o := fun b o hbe hbi hb =>
    Heap.get?_push_of_some _ (k3.extBut b o hbe (k2.extBut b o hbe (k1.extBut b o hbi hb)))
  have j4 : J (H3.push { cls := .type "tuple", data := .seq #[.int i tk, x] }) := hJ _ _ j1 fun o ho => Heap.get?_push_of_some _ (k3.extBut _ o (Ne.symm hne) (k2.extBut _ o (Ne.symm hne) ho))
  generalize H3.push { cls := .type "tuple", data := .seq #[.int i tk, x] } = H4 at e4 t4 m4 j4 ⊢
  show wpAny _ _ (Builtin.SmallTypes.ownedTupleIsFree (.ref e) >>= _) _ _ ⟨H4, g, d, tk + 1, os⟩
  rw [sz]
  refine wpAny_bind ?_
  unfold Builtin.SmallTypes.ownedTupleIsFree
  refine wpAny_bind (wpAny_field e4 rfl (x := .none) rfl (wpAny_pure ?_))
  simp only [if_true]
  refine wpAny_bind (wpAny_rule ?_)
  refine wpAny_bind (wpAny_field e4 rfl (x := old) rfl ?_)
  refine wpAny_bind (wpAny_setField_rec e4 (by simp) fun H5 e5 k5 => ?_)
  replace k5 : Heap.SameBut e H4 H5 := k5
  replace e5 : IsEnum H5 e it ((i : Int) + 1) x := e5
  show wpAny _ _ (Builtin.SmallTypes.ownedTupleHandOut (.ref e) (.ref hp.objs.size) >>= _) _ _ ⟨H5, g, d, tk + 1, os⟩
  refine wpAny_bind ?_
  unfold Builtin.SmallTypes.ownedTupleHandOut
  refine wpAny_bind (wpAny_setField_rec e5 (by simp) fun H6 e6 k6 => ?_)
  replace k6 : Heap.SameBut e H5 H6 := k6
  replace e6 : IsEnumOut H6 e it ((i : Int) + 1) x hp.objs.size := e6
  refine wpAny_setField_rec e6 (by simp) fun H7 e7 k7 => ?_
  replace k7 : Heap.SameBut e H6 H7 := k7
  replace e7 : IsEnumOut H7 e it ((i : Int) + 1) x hp.objs.size := e7
  have up : ∀ b o, b ≠ e → H4.get? b = some o → H7.get? b = some o := fun b o hb q => k7.extBut b o hb (k6.extBut b o hb (k5.extBut b o hb q))
  refine wpAny_bind (wpAny_letGo (wpAny_pure ⟨_, rfl, hQ H7 e7 ?_ (up _ _ (Nat.ne_of_gt el) t4) fun b o hbe hbi hb => up b o hbe (m4 b o hbe hbi hb)⟩))
  exact hJ _ _ j4 fun o ho => up _ o (Ne.symm hne) ho
theorem enum_end {e it : Addr} {i : Nat} {old : Value} {s : Shared} {E : Value → Shared → Prop} {Q : Option Value → Shared → Prop}
    (he : IsEnum s.heap e it i old)
    (hn : ∀ (A' : Around) (E' : Value → Shared → Prop) (Q' : Value → Shared → Prop), A'.handled = A.handled → (∀ h' x, Heap.ExtBut it s.heap h' → (∃ o, h'.get? x = some o ∧ o.cls = .type "StopIteration") → E' (.ref x) { s with heap := h' }) → wpAny (model PW w) A' (Builtin.SmallTypes.nextOf (.ref it)) Q' E' s)
    (hQ : ∀ h', Heap.ExtBut it s.heap h' → Q none { s with heap := h' }) : wpAny (model PW w) A (pyNext (.ref e)) Q E s := by
  have hT : s.TypeIs (.ref e) "enumerate" := ⟨_, he, rfl⟩
  unfold pyNext
  refine wpAny_bind (wpAny_attempt (wpAny_callSpecial?_slot (name := Str.ofString "__next__") hT F.slot_enumerate_next
    (wpAny_call_entry F.slot_enumerate_next hT F.entry_enumerate_next ?_ (F.args_enumerate_next_1 _))))
  show wpAny _ _ (field (.ref e) 2 >>= _) _ _ _
  refine wpAny_bind (wpAny_field he rfl (x := .ref it) rfl ?_)
  refine wpAny_bind (hn _ _ _ rfl fun h' x he' hx' => ?_)
  obtain ⟨o, ho, hc⟩ := hx'
  refine wpAny_bind (wpAny_isInstance (T := "StopIteration") (b := true) ⟨o, ho, hc⟩ isSubtype_stop ?_)
  exact wpAny_pure (hQ _ he')

theorem it_enum_list {h₀ : Heap} {tg : Expr} {elts : List Expr} {x1 : Nat} {tp : Pos} {e it ax : Addr} {vs : List Value} {ds : List PV} (hh : A.handled = none) (htg : tg = .Tuple elts x1 tp)
    (hl : h₀.IsList ax vs.toArray) (hr : RepL h₀ ds vs) (he : h₀.get? e = none) (hi : h₀.get? it = none) (hne : e ≠ it) :
    It w A h₀ T tg e [e, it] ds.length (fun i => .tup [.int i, nth ds i]) (fun i h => (∃ old, IsEnum h e it i old) ∧ h.IsListIter it ax i) where
  new := fun b hb => by simp at hb; rcases hb with rfl | rfl <;> assumption
  live := fun i h st b hb => by
    obtain ⟨⟨old, a⟩, o, b', _⟩ := st
    simp at hb
    rcases hb with rfl | rfl
    · rw [a]; rfl
    · rw [b']; rfl
  frame := fun i h h' st k => ⟨by obtain ⟨⟨old, a⟩, _⟩ := st; exact ⟨old, k e (by simp) _ a⟩, st.2.at fun o q => k it (by simp) o q⟩
  item := fun i s Q E hlt x t st hQ => by
    obtain ⟨⟨old, a⟩, b⟩ := st
    obtain ⟨v, hv, rv⟩ := hr.get (nth_some hlt)
    refine wpAny_pyNext_enum_item a b (hl.at fun o q => x _ _ q) (x := v) (by simpa using hv) hne fun h' o1 o2 o3 o4 o5 => ⟨_, rfl, ?_⟩
    subst htg
    refine wpAny_letOwnedTupleGo_enum o1 fun h'' e'' k'' => ?_
    have ne : e ≠ s.heap.objs.size := Nat.ne_of_lt (Heap.lt_size a)
    have x' : Ext h₀ h'' := fun b o q => k''.extBut b o (by rintro rfl; rw [he] at q; cases q) (o5 b o (by rintro rfl; rw [he] at q; cases q) (by rintro rfl; rw [hi] at q; cases q) (x _ _ q))
    refine hQ _ h'' (s.toks + 1) ⟨_, [.int i s.toks, v], rfl, .inr (Heap.get?_none_of_le (Nat.le_refl _)), ⟨_, k''.extBut _ _ (Ne.symm ne) o3, rfl, _, rfl⟩, ⟨_, _, rfl, ⟨s.toks, rfl⟩, ⟨_, _, rfl, RepP.imp (fun _ y => .inl y) (fun b o _ q => x' b o q) rv.toP, rfl⟩⟩⟩ ⟨⟨v, ?_⟩, o2.extBut k''.extBut (Ne.symm hne)⟩ (Nat.le_succ _) fun b o hb q => k''.extBut b o (by simp at hb; exact hb.1) (o5 b o (by simp at hb; exact hb.1) (by simp at hb; exact hb.2) q)
    have : ((i + 1 : Nat) : Int) = (i : Int) + 1 := by omega
    rw [this]; exact e''
  done := fun s Q E x st hQ => by
    obtain ⟨⟨old, a⟩, b⟩ := st
    exact wpAny_pyNext_enum_end hh a b (hl.at fun o q => x _ _ q) (by simp [hr.length]) fun h' he' => hQ h' s.toks (Nat.le_refl _) fun b o hb q => he' b o (by simp at hb; exact hb.2) q
  iter := fun i s Q E st hQ => by obtain ⟨⟨old, a⟩, b⟩ := st; exact wpAny_pyIter_enum a hQ

-- enumerate over a tuple
theorem nextOf_tuple_item {it t : Addr} {i : Nat} {items : Array Value} {x : Value} {s : Shared} {E : Value → Shared → Prop} {Q : Value → Shared → Prop} (hit : s.heap.IsTupleIter it t i)
    (hl : s.heap.IsTuple t items) (hx : items[i]? = some x) (hQ : ∀ h', h'.IsTupleIter it t (i + 1) → Heap.SameBut it s.heap h' → Q x { s with heap := h' }) :
    wpAny (model PW w) A (Builtin.SmallTypes.nextOf (.ref it)) Q E s := by
  obtain ⟨o, ho, hc, hd⟩ := id hit
  obtain ⟨ol, hol, _, nl, hdl⟩ := hl
  unfold Builtin.SmallTypes.nextOf
  refine wpAny_bind (wpAny_callSpecial?_slot (name := Str.ofString "__next__") hit.typeIs F.slot_tuple_iterator_next
    (wpAny_call_entry F.slot_tuple_iterator_next hit.typeIs F.entry_tuple_iterator_next ?_ (F.args_tuple_iterator_next_1 _)))
  show wpAny _ _ (field (.ref it) 0 >>= _) _ _ s
  refine wpAny_bind (wpAny_field ho hd (x := .ref t) rfl ?_)
  show wpAny _ _ (if (Value.ref t == Value.none) = true then _ else _) _ _ s
  rw [if_neg (show ¬ ((Value.ref t == Value.none) = true) from Bool.false_ne_true)]
  show wpAny _ _ (field (.ref it) 1 >>= _) _ _ s
  refine wpAny_bind (wpAny_field ho hd (x := .int i 0) rfl ?_)
  show wpAny _ _ (seqItems? (.ref t) >>= _) _ _ s
  refine wpAny_bind (wpAny_seqItems hol hdl ?_)
  simp only [Int.toNat_natCast, hx]
  refine wpAny_bind (wpAny_setField ho hd (by simp) (wpAny_pure ⟨x, rfl, wpAny_pure (hQ _ ?_ (Heap.SameBut.update ..))⟩))
  exact ⟨_, Heap.get?_update_self _ ho (Obj.isFreed_of_fields (Obj.data_mapFields hd _)), (Obj.cls_mapFields ..).trans hc, by
    rw [Obj.data_mapFields hd]; simp [rawInt]⟩
theorem nextOf_tuple_end {it t : Addr} {i : Nat} {items : Array Value} {s : Shared} {E : Value → Shared → Prop} {Q : Value → Shared → Prop} (hh : A.handled = none)
    (hit : s.heap.IsTupleIter it t i) (ht : s.heap.IsTuple t items) (hx : items[i]? = none)
    (hE : ∀ h' e, Heap.ExtBut it s.heap h' → (∃ o, h'.get? e = some o ∧ o.cls = .type "StopIteration") → E (.ref e) { s with heap := h' }) :
    wpAny (model PW w) A (Builtin.SmallTypes.nextOf (.ref it)) Q E s := by
  obtain ⟨o, ho, hc, hd⟩ := id hit
  obtain ⟨ol, hol, _, nl, hdl⟩ := ht
  unfold Builtin.SmallTypes.nextOf
  refine wpAny_bind (wpAny_callSpecial?_slot (name := Str.ofString "__next__") hit.typeIs F.slot_tuple_iterator_next
    (wpAny_call_entry F.slot_tuple_iterator_next hit.typeIs F.entry_tuple_iterator_next ?_ (F.args_tuple_iterator_next_1 _)))
  show wpAny _ _ (field (.ref it) 0 >>= _) _ _ s
  refine wpAny_bind (wpAny_field ho hd (x := .ref t) rfl ?_)
  show wpAny _ _ (if (Value.ref t == Value.none) = true then _ else _) _ _ s
  rw [if_neg (show ¬ ((Value.ref t == Value.none) = true) from Bool.false_ne_true)]
  show wpAny _ _ (field (.ref it) 1 >>= _) _ _ s
  refine wpAny_bind (wpAny_field ho hd (x := .int i 0) rfl ?_)
  show wpAny _ _ (seqItems? (.ref t) >>= _) _ _ s
  refine wpAny_bind (wpAny_seqItems hol hdl ?_)
  simp only [Int.toNat_natCast, hx]
  refine wpAny_bind (wpAny_rule (wpAny_bind (wpAny_setField ho hd (by simp) ?_)))
  show wpAny _ _ (newExc (.type "StopIteration") [] >>= _) _ _ _
  refine wpAny_bind ?_
  simp only [newExc, newTuple]
  refine wpAny_bind (wpAny_newObj_type ?_ (by size_fits))
  refine wpAny_bind (m := firstArgMember _ _) (wpAny_of_eq (a := Value.none) (by first | rfl | (simp only [firstArgMember]; rfl)) ?_)
  refine wpAny_newObj_type ?_ (by size_fits)
  simp only [raiseNew]
  refine wpAny_bind (wpAny_handled ?_)
  first | rw [show A.in1.handled = none from hh] | rw [hh]
  refine wpAny_bind (wpAny_pure (wpAny_throw ?_))
  exact hE _ _ (((Heap.SameBut.update ..).extBut.push _).push _) ⟨_, Heap.get?_push_size _ rfl, rfl⟩

theorem meets_enum_tup (l : Addr) (items : Array Value) (n : Nat) (dct : Option Addr) (sl : Array (Option Value)) :
    Meets (Builtin.«enumerate.__new__» ⟨[.type "enumerate", .ref l], []⟩) (fun _ R s => s.heap.get? l = some { cls := .type "tuple", dict := dct, data := .seq items n, slots := sl } ∧
      R (.ok (.ret (.ref (s.heap.push { cls := .type "tuple_iterator", data := .fields #[.ref l, .int 0 0] }).objs.size)))
        { s with heap := (s.heap.push { cls := .type "tuple_iterator", data := .fields #[.ref l, .int 0 0] }).push { cls := .type "enumerate", data := .fields #[.none, .bool false, .ref s.heap.objs.size, rawInt 0, .none, .none] } }) :=
  .of_wp fun prog w A R s h => by
    obtain ⟨hp, g, d, tk, os⟩ := s; obtain ⟨hl, h⟩ := h
    have hsub := sub_enumerate
    have hL : Heap.IsTuple (Shared.heap ⟨hp, g, d, tk, os⟩) l items := ⟨_, hl, rfl, n, rfl⟩
    wp_walk using PySem.AutoSeq1.wpAny_loadPart' hl
    refine wpAny_stack_any fun st => wpAny_pure ?_
    split
    · rename_i c _ _ _ _ _
      cases (c == Value.type "enumerate")
      · wp_walk using PySem.AutoSeq1.wpAny_loadPart' hl, wpAny_pyIter_tuple hL
        exact ⟨_, rfl, h⟩
      · wp_walk using PySem.AutoSeq1.wpAny_loadPart' hl, wpAny_pyIter_tuple hL
        exact ⟨_, rfl, h⟩
    · wp_walk using PySem.AutoSeq1.wpAny_loadPart' hl, wpAny_pyIter_tuple hL
      exact ⟨_, rfl, h⟩
theorem call_enumerate_tuple {l : Addr} {items : Array Value} {s : Shared} {E : Value → Shared → Prop} {Q : Value → Shared → Prop} (hL : s.heap.IsTuple l items)
    (h : ∀ h', IsEnum h' (s.heap.objs.size + 1) s.heap.objs.size 0 .none → h'.IsTupleIter s.heap.objs.size l 0 → h'.objs.size = s.heap.objs.size + 2 →
      (∀ b o, s.heap.get? b = some o → h'.get? b = some o) → Q (.ref (s.heap.objs.size + 1)) { s with heap := h' }) :
    wpAny (model PW w) A (call (.type "enumerate") [.ref l]) Q E s := by
  obtain ⟨⟨c, dct, dt, sl⟩, hl, hc, n, hd⟩ := hL
  replace hc : c = .type "tuple" := hc
  replace hd : dt = .seq items n := hd
  subst hc hd
  refine callType_new F.called_enumerate (by decide) (F.typeCall_enumerate_1 _) (F.newCall_enumerate_1 _) (fun obj => F.args_object_init_2 obj _) F.entry_enumerate_new
    (meets_enum_tup l items n dct sl) ⟨hl, ?_⟩
  have hz : (s.heap.push { cls := .type "tuple_iterator", data := .fields #[.ref l, .int 0 0] }).objs.size = s.heap.objs.size + 1 := Heap.size_push ..
  show _ ∧ _
  rw [hz]
  have he : IsEnum ((s.heap.push { cls := .type "tuple_iterator", data := .fields #[.ref l, .int 0 0] }).push
      { cls := .type "enumerate", data := .fields #[.none, .bool false, .ref s.heap.objs.size, rawInt 0, .none, .none] }) (s.heap.objs.size + 1) s.heap.objs.size 0 .none := by
    have := Heap.get?_push_size (s.heap.push { cls := .type "tuple_iterator", data := .fields #[.ref l, .int 0 0] })
      (o := { cls := .type "enumerate", data := .fields #[.none, .bool false, .ref s.heap.objs.size, rawInt 0, .none, .none] }) rfl
    rw [hz] at this; exact this
  refine ⟨⟨_, he, rfl⟩, h _ he ⟨_, Heap.get?_push_of_some _ (Heap.get?_push_size _ rfl), rfl, rfl⟩ (by rw [Heap.size_push, hz]) fun b o x => Heap.get?_push_of_some _ (Heap.get?_push_of_some _ x)⟩

theorem it_enum_tuple {h₀ : Heap} {tg : Expr} {elts : List Expr} {x1 : Nat} {tp : Pos} {e it ax : Addr} {vs : List Value} {ds : List PV} (hh : A.handled = none) (htg : tg = .Tuple elts x1 tp)
    (hl : h₀.IsTuple ax vs.toArray) (hr : RepL h₀ ds vs) (he : h₀.get? e = none) (hi : h₀.get? it = none) (hne : e ≠ it) :
    It w A h₀ T tg e [e, it] ds.length (fun i => .tup [.int i, nth ds i]) (fun i h => (∃ old, IsEnum h e it i old) ∧ h.IsTupleIter it ax i) where
  new := fun b hb => by simp at hb; rcases hb with rfl | rfl <;> assumption
  live := fun i h st b hb => by
    obtain ⟨⟨old, a⟩, o, b', _⟩ := st
    simp at hb
    rcases hb with rfl | rfl
    · rw [a]; rfl
    · rw [b']; rfl
  frame := fun i h h' st k => ⟨by obtain ⟨⟨old, a⟩, _⟩ := st; exact ⟨old, k e (by simp) _ a⟩, st.2.at fun o q => k it (by simp) o q⟩
  item := fun i s Q E hlt x t st hQ => by
    obtain ⟨⟨old, a⟩, b⟩ := st
    obtain ⟨v, hv, rv⟩ := hr.get (nth_some hlt)
    have hT : s.TypeIs (.ref e) "enumerate" := ⟨_, a, rfl⟩
    unfold pyNext
    refine wpAny_bind (wpAny_attempt (wpAny_callSpecial?_slot (name := Str.ofString "__next__") hT F.slot_enumerate_next
      (wpAny_call_entry F.slot_enumerate_next hT F.entry_enumerate_next (enum_next (J := fun h => h.IsTupleIter it ax (i + 1)) (x := v) a hne (fun h h' j k => j.at fun o q => k o q)
        (fun Q' hq => nextOf_tuple_item b (hl.at fun o q => x _ _ q) (x := v) (by simpa using hv) hq) fun h' o1 o2 o3 o5 => wpAny_pure ⟨_, rfl, ?_⟩) (F.args_enumerate_next_1 _))))
    subst htg
    refine wpAny_letOwnedTupleGo_enum o1 fun h'' e'' k'' => ?_
    have ne : e ≠ s.heap.objs.size := Nat.ne_of_lt (Heap.lt_size a)
    have x' : Ext h₀ h'' := fun b o q => k''.extBut b o (by rintro rfl; rw [he] at q; cases q) (o5 b o (by rintro rfl; rw [he] at q; cases q) (by rintro rfl; rw [hi] at q; cases q) (x _ _ q))
    refine hQ _ h'' (s.toks + 1) ⟨_, [.int i s.toks, v], rfl, .inr (Heap.get?_none_of_le (Nat.le_refl _)), ⟨_, k''.extBut _ _ (Ne.symm ne) o3, rfl, _, rfl⟩, ⟨_, _, rfl, ⟨s.toks, rfl⟩, ⟨_, _, rfl, RepP.imp (fun _ y => .inl y) (fun b o _ q => x' b o q) rv.toP, rfl⟩⟩⟩ ⟨⟨v, ?_⟩, o2.at fun o q => k''.extBut _ o (Ne.symm hne) q⟩ (Nat.le_succ _) fun b o hb q => k''.extBut b o (by simp at hb; exact hb.1) (o5 b o (by simp at hb; exact hb.1) (by simp at hb; exact hb.2) q)
    have : ((i + 1 : Nat) : Int) = (i : Int) + 1 := by omega
    rw [this]; exact e''
  done := fun s Q E x st hQ => by
    obtain ⟨⟨old, a⟩, b⟩ := st
    refine enum_end a (fun A' E' Q' eA hE => nextOf_tuple_end (eA.trans hh) b (hl.at fun o q => x _ _ q) (by simp [hr.length]) hE) fun h' he' => hQ h' s.toks (Nat.le_refl _) fun b o hb q => he' b o (by simp at hb; exact hb.2) q
  iter := fun i s Q E st hQ => by obtain ⟨⟨old, a⟩, b⟩ := st; exact wpAny_pyIter_enum a hQ

/-- enumerate(e), a call -/
theorem itp_enum_tuple {e : Expr} {p pos : Pos} {elts : List Expr} {x1 : Nat} {tp : Pos} {ds : List PV} (hh : A.handled = none)
    (hf : NmP w A env h₁ (.Name "enumerate" p) (.type "enumerate")) (h : EvP w A env h₁ e (.tup ds)) (hs : ∀ rest, starEach (e :: rest) env = (false, eval e env) :: starEach rest env := by intro _; rfl) :
    ItP w A env h₁ 1 (.Tuple elts x1 tp) (.Call (.Name "enumerate" p) [e] [] pos) ds.length (fun i => .tup [.int i, nth ds i]) := .mk fun s E k t => by
  refine wpAny_Call_NameR (hf.run s _ _ k ?_)
  refine callWith_of (P := fun h => Ext h₁ h) (by rw [hs]; rfl) (fun h x => keeps_val (fun a => by simp) _ h x) ?_
  have run := (args_cons h args_nil hs).run (pos := pos) s (E := E) k t
  rw [hs] at run ⊢
  refine evalArgs_plain (wp_use run fun us s₁ r' q => ?_)
  obtain ⟨v, us', rfl, r, r2⟩ := r'
  simp only [RepL] at r2
  subst r2
  obtain ⟨ax, vs, rfl, hl, hr⟩ := r
  refine ⟨k.trans q.ext, call_enumerate_tuple hl fun h' a1 a2 a3 a4 => ?_⟩
  refine wpAny_pyIter_enum a1 ?_
  refine ⟨⟨s₁.heap, _, [s₁.heap.objs.size + 1, s₁.heap.objs.size], _, rfl, q.ext, a4, it_enum_tuple hh rfl hl hr (Heap.get?_none_of_le (Nat.le_succ _)) (Heap.get?_none_of_le (Nat.le_refl _)) (Nat.succ_ne_self _), ⟨⟨_, a1⟩, a2⟩⟩, q.trans ⟨h', s₁.toks, rfl, a4, Nat.le_refl _⟩⟩
theorem itp_enum_list {e : Expr} {p pos : Pos} {elts : List Expr} {x1 : Nat} {tp : Pos} {ds : List PV} (hh : A.handled = none)
    (hf : NmP w A env h₁ (.Name "enumerate" p) (.type "enumerate")) (h : EvP w A env h₁ e (.list ds)) (hs : ∀ rest, starEach (e :: rest) env = (false, eval e env) :: starEach rest env := by intro _; rfl) :
    ItP w A env h₁ 1 (.Tuple elts x1 tp) (.Call (.Name "enumerate" p) [e] [] pos) ds.length (fun i => .tup [.int i, nth ds i]) := .mk fun s E k t => by
  refine wpAny_Call_NameR (hf.run s _ _ k ?_)
  refine callWith_of (P := fun h => Ext h₁ h) (by rw [hs]; rfl) (fun h x => keeps_val (fun a => by simp) _ h x) ?_
  have run := (args_cons h args_nil hs).run (pos := pos) s (E := E) k t
  rw [hs] at run ⊢
  refine evalArgs_plain (wp_use run fun us s₁ r' q => ?_)
  obtain ⟨v, us', rfl, r, r2⟩ := r'
  simp only [RepL] at r2
  subst r2
  obtain ⟨ax, vs, rfl, hl, hr⟩ := r
  refine ⟨k.trans q.ext, call_enumerate_list hl.isList fun h' a1 a2 a3 a4 => ?_⟩
  refine wpAny_pyIter_enum a1 ?_
  refine ⟨⟨s₁.heap, _, [s₁.heap.objs.size + 1, s₁.heap.objs.size], _, rfl, q.ext, a4, it_enum_list hh rfl hl.isList hr (Heap.get?_none_of_le (Nat.le_succ _)) (Heap.get?_none_of_le (Nat.le_refl _)) (Nat.succ_ne_self _), ⟨⟨_, a1⟩, a2⟩⟩, q.trans ⟨h', s₁.toks, rfl, a4, Nat.le_refl _⟩⟩
end T55

end
section
open PySem PySem.W PyProof.Rows PySem.Calls
namespace T55
set_option maxRecDepth 100000
set_option linter.unusedVariables false
variable {w : World} {A : Around} {env : Env} {h₁ : Heap}

-- the heap behind the top
noncomputable abbrev HZ (P : Params) : Heap := absHeap (TG P) 150 {}
noncomputable abbrev gmap (P : Params) : Str → Option Value := (HZ P).nsMap 3
noncomputable abbrev bmap (P : Params) : Str → Option Value := (HZ P).nsMap 0
theorem ns3 (P : Params) : (HZ P).Ns 3 (gmap P) := Heap.Ns.of_isNs (by kernel_rfl)
theorem ns0 (P : Params) : (HZ P).Ns 0 (bmap P) := Heap.Ns.of_isNs (by kernel_rfl)
theorem g_add (P : Params) : gmap P "add" = some (.ref 42) := by kernel_rfl
theorem g_sub (P : Params) : gmap P "sub" = some (.ref 49) := by kernel_rfl
theorem g_count (P : Params) : gmap P "countOf" = some (.ref 56) := by kernel_rfl
theorem g_lev (P : Params) : gmap P "_levenshtein_distance" = some (.ref 28) := by kernel_rfl
theorem g_cost (P : Params) : gmap P "_substitution_cost" = some (.ref 21) := by kernel_rfl
theorem g_grp (P : Params) : gmap P "_grouping_intervals" = some (.ref 35) := by kernel_rfl
theorem g_b1 (P : Params) : gmap P "b1_set" = some (.ref 64) := by kernel_rfl
theorem g_inb1 (P : Params) : gmap P "in_table_b1" = some (.ref 74) := by kernel_rfl
theorem g_b3 (P : Params) : gmap P "b3_exceptions" = some (.ref 75) := by kernel_rfl
theorem g_map (P : Params) : gmap P "map_table_b3" = some (.ref 120) := by kernel_rfl
theorem g_gone (P : Params) : gmap P "_law_gone" = some (.ref 127) := by kernel_rfl
theorem g_typed (P : Params) : gmap P "_law_typed" = some (.ref 132) := by kernel_rfl
theorem g_cut (P : Params) : gmap P "_law_cut" = some (.ref 139) := by kernel_rfl
theorem g_masks (P : Params) : gmap P "_law_masks" = some (.ref 144) := by kernel_rfl
theorem b_len (P : Params) : gmap P "len" = none ∧ bmap P "len" = some (.builtin "len") := ⟨by kernel_rfl, by kernel_rfl⟩
theorem b_chr (P : Params) : gmap P "chr" = none ∧ bmap P "chr" = some (.builtin "chr") := ⟨by kernel_rfl, by kernel_rfl⟩
theorem b_ord (P : Params) : gmap P "ord" = none ∧ bmap P "ord" = some (.builtin "ord") := ⟨by kernel_rfl, by kernel_rfl⟩
theorem b_int (P : Params) : gmap P "int" = none ∧ bmap P "int" = some (.type "int") := ⟨by kernel_rfl, by kernel_rfl⟩
theorem b_sum (P : Params) : gmap P "sum" = none ∧ bmap P "sum" = some (.builtin "sum") := ⟨by kernel_rfl, by kernel_rfl⟩
theorem b_min (P : Params) : gmap P "min" = none ∧ bmap P "min" = some (.builtin "min") := ⟨by kernel_rfl, by kernel_rfl⟩
theorem b_max (P : Params) : gmap P "max" = none ∧ bmap P "max" = some (.builtin "max") := ⟨by kernel_rfl, by kernel_rfl⟩
theorem b_range (P : Params) : gmap P "range" = none ∧ bmap P "range" = some (.type "range") := ⟨by kernel_rfl, by kernel_rfl⟩
theorem b_list (P : Params) : gmap P "list" = none ∧ bmap P "list" = some (.type "list") := ⟨by kernel_rfl, by kernel_rfl⟩
theorem b_zip (P : Params) : gmap P "zip" = none ∧ bmap P "zip" = some (.type "zip") := ⟨by kernel_rfl, by kernel_rfl⟩
theorem b_enum (P : Params) : gmap P "enumerate" = none ∧ bmap P "enumerate" = some (.type "enumerate") := ⟨by kernel_rfl, by kernel_rfl⟩

/-- a block that looks up its global names in the text's namespaces -/
structure GE (w : World) (env : Env) (h₁ : Heap) : Prop where
  g : env.globals = 3
  b : env.builtins = 0
  k : env.scope.kind = .function
  x : Ext (HZ w.params) h₁
theorem nm_global {x : Str} {p : Pos} {f : Value} (G : GE w env h₁) (hx : env.kindOf x = some .globalImplicit) (hv : gmap w.params x = some f) (hd : (x == ("__debug__" : Str)) = false) : NmP w A env h₁ (.Name x p) f := .mk fun s E Q k q =>
  Name_function_global G.k hx (loadGlobal_global (by rw [G.g]; exact (ns3 w.params).at fun o e => k _ _ (G.x _ _ e)) hv q) hd
theorem nm_builtin {x : Str} {p : Pos} {f : Value} (G : GE w env h₁) (hx : env.kindOf x = some .globalImplicit) (hv : gmap w.params x = none ∧ bmap w.params x = some f) (hd : (x == ("__debug__" : Str)) = false) : NmP w A env h₁ (.Name x p) f := .mk fun s E Q k q =>
  Name_function_global G.k hx (loadGlobal_builtin (by rw [G.g]; exact (ns3 w.params).at fun o e => k _ _ (G.x _ _ e)) hv.1 (by rw [G.b]; exact (ns0 w.params).at fun o e => k _ _ (G.x _ _ e)) hv.2 q) hd

-- calls of builtins
theorem cl_len_str {x : Str} (hz : x.length ≤ 1000000) : ClP w A h₁ (.builtin "len") [.str x] (.int x.length) := fun s E vs k t r => by
  obtain ⟨v, r', rfl, ⟨u, rfl⟩, r2⟩ := r
  simp only [RepL] at r2; subst r2
  exact P.len_str (by omega) ⟨⟨_, rfl⟩, Kp.tok s 2⟩
theorem cl_chr {i : Int} (h0 : 0 ≤ i) (h1 : i ≤ 1114111) : ClP w A h₁ (.builtin "chr") [.int i] (.str ⟨#[i.toNat]⟩) := fun s E vs k t r => by
  obtain ⟨v, r', rfl, ⟨u, rfl⟩, r2⟩ := r
  simp only [RepL] at r2; subst r2
  exact P.chr_of_int (by rw [decide_eq_false (by omega), decide_eq_false (by omega)]; rfl) ⟨⟨_, rfl⟩, Kp.tok s 1⟩
theorem cl_ord {c : Nat} : ClP w A h₁ (.builtin "ord") [.str ⟨#[c]⟩] (.int c) := fun s E vs k t r => by
  obtain ⟨v, r', rfl, ⟨u, rfl⟩, r2⟩ := r
  simp only [RepL] at r2; subst r2
  exact P.ord_of_char ⟨⟨_, rfl⟩, Kp.tok s 1⟩
theorem cl_int {i : Int} : ClP w A h₁ (.type "int") [.int i] (.int i) := fun s E vs k t r => by
  obtain ⟨v, r', rfl, ⟨u, rfl⟩, r2⟩ := r
  simp only [RepL] at r2; subst r2
  exact call_int_int ⟨⟨_, rfl⟩, Kp.refl s⟩
end T55

end
section
open PySem PySem.W PyProof.Rows PySem.Calls
namespace T55
set_option maxRecDepth 100000
set_option linter.unusedVariables false
variable {w : World} {A : Around} {env : Env} {h₁ : Heap}

-- sum of pInts
section
variable {R : Result → Shared → Prop} {I : Addr} {fp wr : List Addr} {n : Nat} {P : Nat → Value → Prop} {St : Nat → Heap → Prop}
theorem sum_loop (W : Walks PW w A.in1 I fp wr n P St) (val : Nat → Int) (hval : ∀ i v, P i v → ∃ t, v = .int (val i) t) (hfit : ∀ j, j < n → InLong (val j) ∧ InLong (preSum val (j + 1))) (S : Addr) (hSf : S ∉ fp) :
    ∀ (k i : Nat) (s : Shared) (tA c : Nat), n - i = k → i ≤ n → 1 ≤ tA → tA < s.toks → St i s.heap → s.heap.get? S = some { cls := .type "list", dict := none, data := .seq #[.int (preSum val i) tA] c, slots := #[] } →
    (∀ h' tk (t' : Nat), 1 ≤ t' → t' < tk → s.toks ≤ tk → (∀ b o, b ∉ wr → b ≠ S → s.heap.get? b = some o → h'.get? b = some o) → R (.ok (.ret (.int (preSum val n) t'))) { s with heap := h', toks := tk }) →
    codeAny (model PW w) A (.builtin "sum.loop" ⟨[.ref I, .ref S, rawInt 0, rawInt 0], []⟩) R s := by
  have hSw : S ∉ wr := fun h => hSf (W.sub _ h)
  intro k
  induction k with
  | zero =>
    intro i s tA c hk hi ht hA hst hS hR
    have hin : i = n := by omega
    subst hin
    refine codeAny_builtin F.entry_sum_loop ?_
    rw [Around.under_plainId F.plain_sum_loop _]
    show wpAny _ A.in1 (seqItems? (.ref S) >>= _) _ _ s
    refine wpAny_bind (wpAny_seqItems hS rfl ?_)
    show wpAny _ A.in1 (tryCatch (pyNext (.ref I)) _ >>= _) _ _ s
    refine wpAny_bind (wpAny_tryCatch (wpAny_mono (wpAny_toks (W.done s (fun r s' => ∃ h' tk, r = none ∧ s' = { s with heap := h', toks := tk } ∧ (∀ b o, b ∉ wr → s.heap.get? b = some o → h'.get? b = some o)) _ hst fun h' tk hk' => ⟨h', tk, rfl, rfl, hk'⟩)) (fun r s' z => ?_) fun _ _ y => y.2))
    obtain ⟨le, h', tk, rfl, rfl, hk'⟩ := z
    exact wpAny_pure (hR h' tk tA ht (Nat.lt_of_lt_of_le hA le) le fun b o hbw _ e => hk' b o hbw e)
  | succ k ih =>
    intro i s tA c hk hi ht hA hst hS hR
    have hlt : i < n := by omega
    refine codeAny_builtin F.entry_sum_loop ?_
    rw [Around.under_plainId F.plain_sum_loop _]
    show wpAny _ A.in1 (seqItems? (.ref S) >>= _) _ _ s
    refine wpAny_bind (wpAny_seqItems hS rfl ?_)
    show wpAny _ A.in1 (tryCatch (pyNext (.ref I)) _ >>= _) _ _ s
    refine wpAny_bind (wpAny_tryCatch (wpAny_mono (wpAny_toks (W.item i s (fun r s' => ∃ v h' tk, r = some v ∧ s' = { s with heap := h', toks := tk } ∧ P i v ∧ St (i + 1) h' ∧ (∀ b o, b ∉ wr → s.heap.get? b = some o → h'.get? b = some o)) _ hlt hst fun v h' tk hP hst' hk' => ⟨v, h', tk, rfl, rfl, hP, hst', hk'⟩)) (fun r s' z => ?_) fun _ _ y => y.2))
    obtain ⟨le, v, h', tk, rfl, rfl, hP, hst', hk'⟩ := z
    replace le : s.toks ≤ tk := le
    obtain ⟨t, rfl⟩ := hval i v hP
    have hS' := hk' S _ hSw hS
    obtain ⟨⟨f1, f2⟩, f3, f4⟩ := hfit i hlt
    have hc : ((decide (-(2 ^ 63) ≤ val i) && decide (val i < 2 ^ 63)) && (decide (-(2 ^ 63) ≤ preSum val i + val i) && decide (preSum val i + val i < 2 ^ 63))) = true := by
      simp only [preSum] at f3 f4
      simp only [Bool.and_eq_true, decide_eq_true_eq]
      exact ⟨⟨f1, f2⟩, f3, f4⟩
    show wpAny _ A.in1 (if (_ : Bool) = true then (mkInt (preSum val i + val i) >>= _) else _) _ _ _
    split
    · refine wpAny_bind (wpAny_mkInt ?_)
      show wpAny _ A.in1 (updateSeq S (fun _ => #[.int (preSum val i + val i) tk]) >>= _) _ _ _
      refine wpAny_bind ?_
      refine wpAny_updateSeq hS' rfl (wpAny_pure ⟨plainId_quiet F.plain_sum_loop _, ih (i + 1) _ tk _ (by omega) hlt (Nat.le_trans ht (Nat.le_trans (Nat.le_of_lt hA) le)) (Nat.lt_succ_self _) (W.frame _ _ _ hst' fun b hb o e => ?_) (Heap.get?_update_self _ hS' rfl) fun h'' tk'' t'' ht'' lt'' le'' hk'' => ?_⟩)
      · exact (Heap.get?_update_other _ _ (fun h : S = b => hSf (by rw [h]; exact hb))).trans e
      · exact hR h'' tk'' t'' ht'' lt'' (Nat.le_trans le (Nat.le_trans (Nat.le_succ _) le'')) fun b o hbw hbS e => hk'' b o hbw hbS ((Heap.get?_update_other _ _ (Ne.symm hbS)).trans (hk' b o hbw e))
    · rename_i hneg
      exact absurd hc hneg
end
noncomputable def pInts (l : List Int) : List PV := l.map .int
theorem pI_get {h : Heap} {l : List Int} {vs : List Value} (r : RepL h (pInts l) vs) : ∀ (i : Nat) (v : Value), vs[i]? = some v → ∃ t : Tok, v = Value.int (l.getD i 0) t := by
  intro i v hv
  have hlen : vs.length = l.length := by rw [r.length]; simp [pInts]
  have hi : i < l.length := by
    rcases Nat.lt_or_ge i l.length with q | q
    · exact q
    · rw [List.getElem?_eq_none (by omega)] at hv; cases hv
  have : (pInts l)[i]? = some (PV.int (l.getD i 0)) := by simp [pInts, hi, List.getD_eq_getElem?_getD]
  obtain ⟨v', hv', u, rfl⟩ := r.get this
  rw [hv] at hv'
  cases hv'
  exact ⟨u, rfl⟩
theorem preSum_eq (l : List Int) : ∀ n, n ≤ l.length → preSum (fun i => l.getD i 0) n = (l.take n).sum
  | 0, _ => by simp [preSum]
  | n + 1, h => by
    rw [preSum, preSum_eq l n (by omega), List.take_succ_eq_append_getElem (by omega), List.sum_append]
    simp [List.getD_eq_getElem?_getD, show n < l.length by omega]
theorem call_sumT {l : List Int} (hh : A.handled = none) (hb : ∀ x ∈ l, 0 ≤ x ∧ x < 2 ^ 40) (hz : l.length ≤ 100) (s : Shared) (E : Value → Shared → Prop) (vs : List Value) (t : 1 ≤ s.toks) (r : RepL s.heap [.list (pInts l)] vs) :
    wpAny (model PW w) A (call (.builtin "sum") vs) (fun v s' => (∃ t' : Nat, 1 ≤ t' ∧ t' < s'.toks ∧ v = .int l.sum t') ∧ Kp s s') E s := by
  obtain ⟨v, r', rfl, ⟨a, us, rfl, hl, hr⟩, r2⟩ := r
  replace hl := hl.isList
  simp only [RepL] at r2; subst r2
  have hul : us.length = l.length := by rw [hr.length]; simp [pInts]
  refine call_function_tree F.kind_sum F.plain_sum F.entry_sum (F.args_sum1 _) ?_
  unfold Builtin.«sum»
  simp only [List.length_cons, List.length_nil]
  rw [if_neg (by decide)]
  refine wpAny_bind (wpAny_of_eq (show Builtin.Builtins.bindParams "sum" ["start"] 0 { } = pure [none] from rfl) ?_)
  refine wpAny_bind (wpAny_pyIter_list hl ?_)
  generalize hH : s.heap.push { cls := .type "list_iterator", data := .fields #[.ref a, .int 0 0] } = H
  have old : ∀ b o, s.heap.get? b = some o → H.get? b = some o := fun b o e => hH ▸ Heap.get?_push_of_some _ e
  have ne : a ≠ s.heap.objs.size := by obtain ⟨o, ho, _⟩ := hl; exact Nat.ne_of_lt (Heap.lt_size ho)
  have hI : H.get? s.heap.objs.size = some { cls := .type "list_iterator", data := .fields #[.ref a, .int 0 0] } := hH ▸ Heap.get?_push_size _ rfl
  have W := Walks.list (prog := PW) (w := w) (A := A.in1) (by exact hh) s.heap.objs.size a ne us.toArray
  refine wpAny_bind (wpAny_mkInt ?_)
  refine wpAny_bind (wpAny_pure ?_)
  simp only [List.forIn_cons, List.forIn_nil]
  refine wpAny_bind (wpAny_bind (wpAny_bind (wpAny_isInstance (T := "int") (b := false) (typeIs_int _ _ _) PySem.sub_int_str ?_)))
  simp only [Bool.false_eq_true, if_false]
  refine wpAny_pure (wpAny_bind (wpAny_bind (wpAny_isInstance (T := "int") (b := false) (typeIs_int _ _ _) PySem.sub_int_bytes ?_)))
  simp only [Bool.false_eq_true, if_false]
  refine wpAny_pure (wpAny_bind (wpAny_bind (wpAny_isInstance (T := "int") (b := false) (typeIs_int _ _ _) PySem.sub_int_bytearray ?_)))
  simp only [Bool.false_eq_true, if_false]
  refine wpAny_pure (wpAny_pure ?_)
  refine wpAny_bind (wpAny_newObj_type ?_)
  have szH : ∀ b o, H.get? b = some o → b ≠ H.objs.size := fun b o e => Nat.ne_of_lt (Heap.lt_size e)
  obtain ⟨oa, hoa, _⟩ := id hl
  have hSf : H.objs.size ∉ [s.heap.objs.size, a] := by
    intro hm
    simp only [List.mem_cons, List.not_mem_nil, or_false] at hm
    rcases hm with e | e
    · exact szH _ _ hI e.symm
    · exact szH _ _ (old _ _ hoa) e.symm
  have sums : ∀ j, j ≤ l.length → 0 ≤ (l.take j).sum ∧ (l.take j).sum ≤ j * 2 ^ 40 := by
    intro j
    induction j with
    | zero => intro _; simp
    | succ j ih =>
      intro hj
      obtain ⟨a1, a2⟩ := ih (by omega)
      have hm := hb l[j] (List.getElem_mem (by omega))
      rw [List.take_succ_eq_append_getElem (by omega), List.sum_append]
      simp only [List.sum_cons, List.sum_nil]
      push_cast
      omega
  refine wpAny_pure ⟨plainId_quiet F.plain_sum_loop _, sum_loop W (fun i => l.getD i 0) (fun i v hv => pI_get hr i v (by simpa using hv)) ?_ H.objs.size hSf _ 0 _ s.toks 0 rfl (Nat.zero_le _) t (Nat.lt_succ_self _)
    ⟨⟨_, Heap.get?_push_of_some _ hI, rfl, rfl⟩, hl.at fun o e => Heap.get?_push_of_some _ (old _ _ e)⟩ (Heap.get?_push_size _ rfl) fun h' tk t' ht' lt' le hk => ?_⟩
  · intro j hj
    rw [List.size_toArray, hul] at hj
    have hm := hb l[j] (List.getElem_mem hj)
    have e1 : l.getD j 0 = l[j] := by simp [List.getD_eq_getElem?_getD, hj]
    rw [preSum_eq l (j + 1) (by omega)]
    obtain ⟨a1, a2⟩ := sums (j + 1) (by omega)
    unfold InLong
    rw [e1]
    push_cast at a2
    omega
  · refine ⟨⟨t', ht', lt', ?_⟩, h', tk, rfl, fun b o e => hk b o (by simp; rintro rfl; exact absurd (Heap.lt_size e) (Nat.lt_irrefl _)) (szH _ _ (old _ _ e)) (Heap.get?_push_of_some _ (old _ _ e)), Nat.le_trans (Nat.le_succ _) le⟩
    rw [List.size_toArray, hul, preSum_eq l _ (Nat.le_refl _), List.take_length]
theorem cl_sum {l : List Int} (hh : A.handled = none) (hb : ∀ x ∈ l, 0 ≤ x ∧ x < 2 ^ 40) (hz : l.length ≤ 100) : ClP w A h₁ (.builtin "sum") [.list (pInts l)] (.int l.sum) := fun s E vs k t r =>
  wp_use (call_sumT hh hb hz s E vs t r) fun v s' ⟨t', _, _, e⟩ q => ⟨⟨t', e⟩, q⟩
end T55

end
section
open PySem PySem.W PyProof.Rows PySem.Calls
namespace T55
set_option maxRecDepth 100000
set_option linter.unusedVariables false
variable {w : World} {A : Around} {env : Env} {h₁ : Heap}

-- min and max of ints
theorem cl_min2 {a b : Int} (hh : A.handled = none) : ClP w A h₁ (.builtin "min") [.int a, .int b] (.int (min a b)) := fun s E vs k t r => by
  obtain ⟨v, r', rfl, ⟨ta, rfl⟩, v2, r2', rfl, ⟨tb, rfl⟩, r2⟩ := r
  simp only [RepL] at r2; subst r2
  refine wp_kp (call_min_two ?_)
  have hT : (s.heap.push { cls := .type "tuple", data := .seq #[.int a ta, .int b tb] }).IsTuple s.heap.objs.size #[.int a ta, .int b tb] := ⟨_, Heap.get?_push_size _ rfl, rfl, _, rfl⟩
  refine wpAny_pyIter_tuple hT ?_
  have sz : (s.heap.push { cls := .type "tuple", data := .seq #[.int a ta, .int b tb] }).objs.size = s.heap.objs.size + 1 := Heap.size_push ..
  refine ⟨_, _, _, _, _, _, _, rfl, Walks.tuple (A := A.in1) (by exact hh) _ s.heap.objs.size (by show s.heap.objs.size ≠ _; rw [sz]; exact Nat.ne_of_lt (Nat.lt_succ_self _)) #[.int a ta, .int b tb],
    ⟨⟨_, Heap.get?_push_size _ rfl, rfl, rfl⟩, hT.at fun o e => Heap.get?_push_of_some _ e⟩, ?_, (by show 0 < 2; decide),
    CmpOf.ints_lt (fun i => if i = 0 then a else b) ?_, fun v h' tk hP hk => ?_⟩
  · intro x hx
    show x < (Heap.push _ _).objs.size
    rw [Heap.size_push, sz]
    simp only [List.mem_cons, List.not_mem_nil, or_false] at hx
    rcases hx with rfl | rfl
    · show (Heap.push _ _).objs.size < _; rw [sz]; exact Nat.lt_succ_self _
    · exact Nat.lt_succ_of_lt (Nat.lt_succ_self _)
  · intro i v hv
    match i, hv with
    | 0, hv => simp at hv; subst hv; exact ⟨ta, rfl⟩
    | 1, hv => simp at hv; subst hv; exact ⟨tb, rfl⟩
  · refine ⟨?_, h', tk, rfl, fun x o e => hk x o ?_ (Heap.get?_push_of_some _ (Heap.get?_push_of_some _ e))⟩
    · have e2 : argBest (fun i j => decide ((if i = 0 then a else b) < (if j = 0 then a else b))) ((#[Value.int a ta, .int b tb] : Array Value).size - 1) = if b < a then 1 else 0 := by
        show argBest _ 1 = _
        simp only [argBest]
        by_cases h : b < a <;> simp [h]
      rw [e2] at hP
      by_cases h : b < a
      · rw [if_pos h] at hP
        simp at hP; subst hP
        exact ⟨tb, by rw [Int.min_def, if_neg (by omega)]⟩
      · rw [if_neg h] at hP
        simp at hP; subst hP
        exact ⟨ta, by rw [Int.min_def, if_pos (by omega)]⟩
    · simp only [List.mem_cons, List.not_mem_nil, or_false]
      intro e'
      have := Heap.lt_size e
      rw [e'] at this
      replace this : (Heap.push _ _).objs.size < _ := this
      rw [sz] at this
      exact absurd this (Nat.not_lt.mpr (Nat.le_succ _))

theorem cl_min3 {a b c : Int} (hh : A.handled = none) : ClP w A h₁ (.builtin "min") [.int a, .int b, .int c] (.int (min (min a b) c)) := fun s E vs k t r => by
  obtain ⟨v, r', rfl, ⟨ta, rfl⟩, v2, r2', rfl, ⟨tb, rfl⟩, v3, r3', rfl, ⟨tc, rfl⟩, r2⟩ := r
  simp only [RepL] at r2; subst r2
  refine wp_kp (call_min_three ?_)
  have hT : (s.heap.push { cls := .type "tuple", data := .seq #[.int a ta, .int b tb, .int c tc] }).IsTuple s.heap.objs.size #[.int a ta, .int b tb, .int c tc] := ⟨_, Heap.get?_push_size _ rfl, rfl, _, rfl⟩
  refine wpAny_pyIter_tuple hT ?_
  have sz : (s.heap.push { cls := .type "tuple", data := .seq #[.int a ta, .int b tb, .int c tc] }).objs.size = s.heap.objs.size + 1 := Heap.size_push ..
  refine ⟨_, _, _, _, _, _, _, rfl, Walks.tuple (A := A.in1) (by exact hh) _ s.heap.objs.size (by show s.heap.objs.size ≠ _; rw [sz]; exact Nat.ne_of_lt (Nat.lt_succ_self _)) #[.int a ta, .int b tb, .int c tc],
    ⟨⟨_, Heap.get?_push_size _ rfl, rfl, rfl⟩, hT.at fun o e => Heap.get?_push_of_some _ e⟩, ?_, (by show 0 < 3; decide),
    CmpOf.ints_lt (fun i => if i = 0 then a else if i = 1 then b else c) ?_, fun v h' tk hP hk => ?_⟩
  · intro x hx
    show x < (Heap.push _ _).objs.size
    rw [Heap.size_push, sz]
    simp only [List.mem_cons, List.not_mem_nil, or_false] at hx
    rcases hx with rfl | rfl
    · show (Heap.push _ _).objs.size < _; rw [sz]; exact Nat.lt_succ_self _
    · exact Nat.lt_succ_of_lt (Nat.lt_succ_self _)
  · intro i v hv
    match i, hv with
    | 0, hv => simp at hv; subst hv; exact ⟨ta, rfl⟩
    | 1, hv => simp at hv; subst hv; exact ⟨tb, rfl⟩
    | 2, hv => simp at hv; subst hv; exact ⟨tc, rfl⟩
  · refine ⟨?_, h', tk, rfl, fun x o e => hk x o ?_ (Heap.get?_push_of_some _ (Heap.get?_push_of_some _ e))⟩
    · have e2 : argBest (fun i j => decide ((if i = 0 then a else if i = 1 then b else c) < (if j = 0 then a else if j = 1 then b else c))) ((#[Value.int a ta, .int b tb, .int c tc] : Array Value).size - 1) = if b < a then (if c < b then 2 else 1) else (if c < a then 2 else 0) := by
        show argBest _ 2 = _
        simp only [argBest]
        by_cases h : b < a
        · by_cases h' : c < b <;> simp [h, h']
        · by_cases h' : c < a <;> simp [h, h']
      rw [e2] at hP
      by_cases h : b < a
      · rw [if_pos h] at hP
        by_cases h' : c < b
        · rw [if_pos h'] at hP; simp at hP; subst hP; exact ⟨tc, by congr 1; omega⟩
        · rw [if_neg h'] at hP; simp at hP; subst hP; exact ⟨tb, by congr 1; omega⟩
      · rw [if_neg h] at hP
        by_cases h' : c < a
        · rw [if_pos h'] at hP; simp at hP; subst hP; exact ⟨tc, by congr 1; omega⟩
        · rw [if_neg h'] at hP; simp at hP; subst hP; exact ⟨ta, by congr 1; omega⟩
    · simp only [List.mem_cons, List.not_mem_nil, or_false]
      intro e'
      have := Heap.lt_size e
      rw [e'] at this
      replace this : (Heap.push _ _).objs.size < _ := this
      rw [sz] at this
      exact absurd this (Nat.not_lt.mpr (Nat.le_succ _))
theorem cl_max3 {a b c : Int} (hh : A.handled = none) : ClP w A h₁ (.builtin "max") [.list [.int a, .int b, .int c]] (.int (max (max a b) c)) := fun s E vs k t r => by
  obtain ⟨v0, r0, rfl, ⟨l, us, rfl, hl, v, r', rfl, ⟨ta, rfl⟩, v2, r2', rfl, ⟨tb, rfl⟩, v3, r3', rfl, ⟨tc, rfl⟩, r2⟩, r0'⟩ := r
  simp only [RepL] at r2 r0'; subst r2 r0'
  refine wp_kp (call_max_walk ?_)
  have hT := hl.isList
  have ne : l ≠ s.heap.objs.size := by obtain ⟨o, ho, _⟩ := hT; exact Nat.ne_of_lt (Heap.lt_size ho)
  have lt : l < s.heap.objs.size := by obtain ⟨o, ho, _⟩ := hT; exact Heap.lt_size ho
  refine wpAny_pyIter_list hT ?_
  refine ⟨_, _, _, _, _, _, _, rfl, Walks.list (A := A.in1) (by exact hh) _ l ne #[.int a ta, .int b tb, .int c tc],
    ⟨⟨_, Heap.get?_push_size _ rfl, rfl, rfl⟩, hT.at fun o e => Heap.get?_push_of_some _ e⟩, ?_, (by show 0 < 3; decide),
    CmpOf.ints_gt (fun i => if i = 0 then a else if i = 1 then b else c) ?_, fun v h' tk hP hk => ?_⟩
  · intro x hx
    show x < (Heap.push _ _).objs.size
    rw [Heap.size_push]
    simp only [List.mem_cons, List.not_mem_nil, or_false] at hx
    rcases hx with rfl | rfl
    · exact Nat.lt_succ_self _
    · exact Nat.lt_succ_of_lt lt
  · intro i v hv
    match i, hv with
    | 0, hv => simp at hv; subst hv; exact ⟨ta, rfl⟩
    | 1, hv => simp at hv; subst hv; exact ⟨tb, rfl⟩
    | 2, hv => simp at hv; subst hv; exact ⟨tc, rfl⟩
  · refine ⟨?_, h', tk, rfl, fun x o e => hk x o ?_ (Heap.get?_push_of_some _ e)⟩
    · have e2 : argBest (fun i j => decide ((if i = 0 then a else if i = 1 then b else c) > (if j = 0 then a else if j = 1 then b else c))) ((#[Value.int a ta, .int b tb, .int c tc] : Array Value).size - 1) = if b > a then (if c > b then 2 else 1) else (if c > a then 2 else 0) := by
        show argBest _ 2 = _
        simp only [argBest]
        by_cases h : b > a
        · by_cases h' : c > b <;> simp [h, h']
        · by_cases h' : c > a <;> simp [h, h']
      rw [e2] at hP
      by_cases h : b > a
      · rw [if_pos h] at hP
        by_cases h' : c > b
        · rw [if_pos h'] at hP; simp at hP; subst hP; exact ⟨tc, by congr 1; omega⟩
        · rw [if_neg h'] at hP; simp at hP; subst hP; exact ⟨tb, by congr 1; omega⟩
      · rw [if_neg h] at hP
        by_cases h' : c > a
        · rw [if_pos h'] at hP; simp at hP; subst hP; exact ⟨tc, by congr 1; omega⟩
        · rw [if_neg h'] at hP; simp at hP; subst hP; exact ⟨ta, by congr 1; omega⟩
    · simp only [List.mem_cons, List.not_mem_nil, or_false]
      intro e'
      have := Heap.lt_size e
      rw [e'] at this
      exact absurd this (Nat.lt_irrefl _)

-- lists of immediates
noncomputable def ImmL (l : List PV) : Prop := ∀ d ∈ l, Imm d
theorem RepPL.imm {k : Addr → Prop} {h h' : Heap} : ∀ {l : List PV} {vs : List Value}, ImmL l → RepL h l vs → RepPL k h' l vs
  | [], _, _, r => by simp only [RepL] at r; subst r; rfl
  | p :: ps, _, i, r => by
    simp only [RepL] at r
    obtain ⟨v, q, rfl, h1, h2⟩ := r
    exact ⟨v, q, rfl, RepP.imm (i p (by simp)) h1, RepPL.imm (fun d hd => i d (by simp [hd])) h2⟩
/-- a new list of immediates -/
theorem ev_listF {es : List Expr} {pos : Pos} {ds : List PV} (h : ArgsP w A env h₁ es ds) (hi : ImmL ds) (hsz : ds.length ≤ sizeLine) : EvF w A env h₁ (.List es pos) (.list ds) := .mk fun s E k t =>
  wpAny_List_spliced (wp_use (h.run s _ k t) fun vs s₁ r q => ⟨by rw [r.length]; exact hsz,
    ⟨_, vs, rfl, Nw.of q.ext (Heap.get?_none_of_le (Nat.le_refl _)), ⟨_, Heap.get?_push_size _ rfl⟩, RepPL.imm hi r⟩, q.trans (Kp.push s₁ _)⟩)
theorem ev_tupleF {es : List Expr} {n : Nat} {pos : Pos} {ds : List PV} (h : ArgsP w A env h₁ es ds) (hi : ImmL ds) (hsz : ds.length ≤ sizeLine) : EvF w A env h₁ (.Tuple es n pos) (.tup ds) := .mk fun s E k t =>
  wpAny_Tuple_spliced (wp_use (h.run s _ k t) fun vs s₁ r q => ⟨by rw [r.length]; exact hsz,
    ⟨_, vs, rfl, Nw.of q.ext (Heap.get?_none_of_le (Nat.le_refl _)), ⟨_, Heap.get?_push_size _ rfl, rfl, _, rfl⟩, RepPL.imm hi r⟩, q.trans (Kp.push s₁ _)⟩)
/-- a new list from an operation -/
noncomputable def OpF (w : World) (A : Around) (h₁ : Heap) (op : Operator) (d1 d2 d : PV) : Prop :=
  ∀ (s : Shared) (E : Value → Shared → Prop) (a b : Value), Ext h₁ s.heap → 1 ≤ s.toks → Rep s.heap d1 a → Rep s.heap d2 b →
    wpAny (model PW w) A (binaryOp op a b) (fun v s' => RepP (Nw s.heap) s'.heap d v ∧ Kp s s') E s
theorem OpF.op {op : Operator} {d1 d2 d : PV} (h : OpF w A h₁ op d1 d2 d) : OpP w A h₁ op d1 d2 d := fun s E a b k t ra rb => wp_use (h s E a b k t ra rb) fun v s' r q => ⟨r.rep, q⟩
theorem ev_binF {e1 e2 : Expr} {op : Operator} {pos : Pos} {d1 d2 d : PV} (h1 : EvP w A env h₁ e1 d1) (h2 : EvP w A env h₁ e2 d2) (hop : OpF w A h₁ op d1 d2 d) :
    EvF w A env h₁ (.BinOp e1 op e2 pos) d := .mk fun s E k t =>
  wpAny_BinOp (h1.use k t fun a s₁ ra ka => h2.use (k.trans ka.ext) (Nat.le_trans t ka.toks) fun b s₂ rb kb =>
    wp_use (hop s₂ _ a b (k.trans (ka.ext.trans kb.ext)) (Nat.le_trans t (Nat.le_trans ka.toks kb.toks)) (ra.ext kb.ext) rb)
      fun v s' r q => ⟨r.imp (fun b hb => Nw.of (ka.trans kb).ext hb) fun _ _ _ e => e, ka.trans (kb.trans q)⟩)
theorem op_add_list {l l' : List PV} (hi : ImmL l) (hi' : ImmL l') (hz : l.length + l'.length ≤ sizeLine) : OpF w A h₁ .Add (.list l) (.list l') (.list (l ++ l')) := fun s E u v k t ra rb => by
  obtain ⟨a, us, rfl, ⟨na, ha⟩, hra⟩ := ra
  obtain ⟨b, us', rfl, ⟨nb, hb⟩, hrb⟩ := rb
  refine P.add_list (n := na) (n2 := nb) ha hb ⟨⟨_, us ++ us', rfl, Heap.get?_none_of_le (Nat.le_refl _), ⟨0, ?_⟩, ?_⟩, Kp.push s _⟩ (by rw [List.size_toArray, List.size_toArray, hra.length, hrb.length]; exact hz)
  · have : us.toArray ++ us'.toArray = (us ++ us').toArray := by simp
    rw [this]
    exact Heap.get?_push_size _ rfl
  · exact RepPL.imm (fun d hd => by rcases List.mem_append.mp hd with q | q; exact hi d q; exact hi' d q) (hra.append hrb)
theorem mul_list_at {a : Addr} {U : Array Value} {na : Nat} {N : Int} {u : Tok} {s : Shared} {E : Value → Shared → Prop} {Q : Value → Shared → Prop} (ha : s.heap.get? a = some { cls := .type "list", data := .seq U na })
    (f0 : ¬(!Builtin.List.listFitsIndex N) = true) (f1 : ¬U.size * N.toNat > (2 ^ 63 - 1) / 8) (f2 : ¬Builtin.List.listTooLong (U.size * N.toNat) = true)
    (h : Q (.ref s.heap.objs.size) { s with heap := s.heap.push { cls := .type "list", data := .seq (List.foldl (fun x1 x2 => x1 ++ x2) #[] (List.replicate (if U.isEmpty = true then 0 else N.toNat) U)) } }) :
    wpAny (model PW w) A (binaryOp .Mult (.ref a) (.int N u)) Q E s :=
  wpAny_binaryOp_repeat_ref (T := "list") (U := "int") (by decide) ⟨_, ha, rfl⟩ (fun s' => typeIs_int s' N u) noFill_list_mul F.fills_int_mul F.slot_int_rmul repeat_list F.slot_int_index.lookup
    (call_meets F.slot_int_rmul (typeIs_int s N u) F.entry_int_rmul (F.args_int_rmul_2 _ _) (int___rmul___int_list N u a U na)
      ⟨ha, rfl, ⟨_, ha, rfl⟩, call_meets F.slot_list_mul ⟨_, ha, rfl⟩ F.entry_list_mul (F.args_list_mul_2 _ _)
        (AutoListH.list___mul___list_int_3 a U na N u f0 f1 f2) ⟨ha, h⟩⟩)
theorem op_mul_list {l : List PV} {n : Nat} (hi : ImmL l) (hz : l.length * n ≤ 100000) (hn : n ≤ 100000) : OpF w A h₁ .Mult (.list l) (.int n) (.list (List.replicate n l).flatten) := fun s E u v k t ra rb => by
  obtain ⟨a, us, rfl, ⟨na, ha⟩, hra⟩ := ra
  obtain ⟨u, rfl⟩ := rb
  have hlen := hra.length
  have hu : (if (us.toArray.isEmpty) = true then 0 else ((n : Int)).toNat) = 0 ∨ (if (us.toArray.isEmpty) = true then 0 else ((n : Int)).toNat) = n := by split <;> simp
  have hm : us.toArray.size * ((n : Int)).toNat ≤ 100000 := by rw [List.size_toArray, Int.toNat_natCast, hlen]; exact hz
  have f0 : ¬ (!Builtin.List.listFitsIndex (n : Int)) = true := by
    unfold Builtin.List.listFitsIndex
    rw [decide_eq_true (by omega), decide_eq_true (by omega)]; decide
  have f1 : ¬ us.toArray.size * ((n : Int)).toNat > (2 ^ 63 - 1) / 8 := by omega
  have f2 : ¬ Builtin.List.listTooLong (us.toArray.size * ((n : Int)).toNat) = true := by
    unfold Builtin.List.listTooLong
    rw [decide_eq_false (by rw [sizeLine_eq]; omega)]; decide
  refine mul_list_at ha f0 f1 f2 ?_
  refine ⟨⟨_, (List.replicate n us).flatten, rfl, Heap.get?_none_of_le (Nat.le_refl _), ⟨0, ?_⟩, ?_⟩, Kp.push s _⟩
  · have e : List.foldl (fun x1 x2 => x1 ++ x2) (#[] : Array Value) (List.replicate (if us.toArray.isEmpty = true then 0 else ((n : Int)).toNat) us.toArray) = ((List.replicate n us).flatten).toArray := by
      have g : ∀ (m : Nat) (acc : List Value), List.foldl (fun x1 x2 => x1 ++ x2) acc.toArray (List.replicate m us.toArray) = (acc ++ (List.replicate m us).flatten).toArray := by
        intro m
        induction m with
        | zero => intro acc; simp
        | succ m ih =>
          intro acc
          rw [List.replicate_succ, List.foldl_cons, show acc.toArray ++ us.toArray = (acc ++ us).toArray by simp, ih]
          rw [List.replicate_succ, List.flatten_cons, List.append_assoc]
      by_cases he : us = []
      · subst he
        have : (List.replicate n ([] : List Value)).flatten = [] := by simp
        simp [this]
      · rw [if_neg (by simpa using he)]
        have := g n []
        simpa using this
    rw [e]
    exact Heap.get?_push_size _ rfl
  · have g : ∀ m, RepL s.heap (List.replicate m l).flatten (List.replicate m us).flatten := by
      intro m
      induction m with
      | zero => simp [RepL]
      | succ m ih => rw [List.replicate_succ, List.replicate_succ, List.flatten_cons, List.flatten_cons]; exact hra.append ih
    exact RepPL.imm (fun d hd => by
      rw [List.mem_flatten] at hd
      obtain ⟨x, hx, hd⟩ := hd
      rw [List.eq_of_mem_replicate hx] at hd
      exact hi d hd) (g n)
end T55

end
section
open PySem PySem.W PyProof.Rows PySem.Calls
namespace T55
set_option maxRecDepth 100000
set_option linter.unusedVariables false
variable {w : World} {A : Around} {env : Env} {h₁ : Heap}

theorem RepPL.pick {k : Addr → Prop} {h h' : Heap} {l : List PV} {vs : List Value} (i : ImmL l) (r : RepL h l vs) (lo hi st : Option Int) : RepPL k h' (pick l lo hi st) (pick vs lo hi st) :=
  RepPL.imm (fun d hd => by
    unfold T55.pick at hd
    rw [List.mem_filterMap] at hd
    obtain ⟨j, _, hj⟩ := hd
    exact i d (List.mem_of_getElem? hj)) (r.pick lo hi st)
theorem ev_slice_listF {e : Expr} {lo hi : Option Expr} {p pos : Pos} {l : List PV} {a b : Option Int} (hi' : ImmL l) (h1 : EvP w A env h₁ e (.list l)) (hl : PartP w A env h₁ lo a) (hu : PartP w A env h₁ hi b)
    (hsz : l.length ≤ sizeLine) (ht : ∀ (o r : Value), letTemporaryGo e o r = pure () := by intro _ _; rfl) : EvF w A env h₁ (.Subscript e (.Slice lo hi none p) pos) (.list (pick l a b none)) := .mk fun s E k t =>
  wpAny_Subscript_list_slice (h1.use k t fun o s₁ ro ko => wp_use (hl.run s₁ _ (k.trans ko.ext) (Nat.le_trans t ko.toks)) fun vl s₂ rl kl =>
    wp_use (hu.run s₂ _ (k.trans (ko.trans kl).ext) (Nat.le_trans t (ko.trans kl).toks)) fun vu s₃ ru ku => by
      obtain ⟨ad, vs, rfl, hL, hR⟩ := ro.ext (kl.trans ku).ext
      obtain ⟨pl, rfl, el⟩ := rl
      obtain ⟨pu, rfl, eu⟩ := ru
      refine ⟨ad, _, _, _, rfl, hL.isList, by rw [List.size_toArray, hR.length]; exact hsz, ispart_of pl, ispart_of pu, ?_⟩
      rw [el, eu, slicePick_eq]
      refine ⟨⟨_, pick vs a b none, rfl, Nw.of ((ko.trans kl).trans ku).ext (Heap.get?_none_of_le (Nat.le_succ _)), ?_, RepPL.pick hi' hR a b none⟩, ((ko.trans kl).trans ku).trans ((Kp.push s₃ _).trans (Kp.push _ _))⟩
      have this : ((s₃.heap.push { cls := .type "slice", data := .fields #[partValue pl, partValue pu, Value.none] }).push { cls := .type "list", data := .seq (pick vs a b none).toArray }).get? (s₃.heap.push { cls := .type "slice", data := .fields #[partValue pl, partValue pu, Value.none] }).objs.size = some { cls := .type "list", data := .seq (pick vs a b none).toArray } := Heap.get?_push_size _ rfl
      rw [Heap.size_push] at this
      exact ⟨_, this⟩) ht
theorem ev_slice_step {e es : Expr} {lo hi : Option Expr} {p pos : Pos} {l : List PV} {a b : Option Int} {c : Int} (hc : c ≠ 0) (hi' : ImmL l) (h1 : EvP w A env h₁ e (.list l)) (hl : PartP w A env h₁ lo a) (hu : PartP w A env h₁ hi b)
    (hst : EvP w A env h₁ es (.int c)) (hsz : l.length ≤ sizeLine) (hs : ∀ o i, subscripted (.Slice lo hi (some es) p) false o i = operate [o, i] (getItem o i) := by intro _ _; rfl) :
    EvF w A env h₁ (.Subscript e (.Slice lo hi (some es) p) pos) (.list (pick l a b (some c))) := .mk fun s E k t =>
  Subscript_ (h1.use k t fun o s₁ ro ko => wpAny_Slice (wp_use (hl.run s₁ _ (k.trans ko.ext) (Nat.le_trans t ko.toks)) fun vl s₂ rl kl =>
    wp_use (hu.run s₂ _ (k.trans (ko.trans kl).ext) (Nat.le_trans t (ko.trans kl).toks)) fun vu s₃ ru ku => wp_use ((part_some hst).run s₃ _ (k.trans ((ko.trans kl).trans ku).ext) (Nat.le_trans t ((ko.trans kl).trans ku).toks)) fun vs' s₄ rs ks => by
      obtain ⟨ad, vs, rfl, hL, hR⟩ := ro.ext ((kl.trans ku).trans ks).ext
      obtain ⟨pl, rfl, el⟩ := rl
      obtain ⟨pu, rfl, eu⟩ := ru
      obtain ⟨ps, rfl, es⟩ := rs
      have hL2 : (s₄.heap.push { cls := .type "slice", data := .fields #[partValue pl, partValue pu, partValue ps] }).IsList ad vs.toArray := hL.isList.push _
      refine tail_any hL2.typeIs slot_list_getitem.lookup (wpAny_getItem_list_slice (lo := a) (hi := b) (st := some c) hL2 (Heap.IsSliceOf.new ..) (el ▸ ispart_of pl) (eu ▸ ispart_of pu) (es ▸ ispart_of ps) (by simpa using hc) ?_ (by rw [List.size_toArray, hR.length]; exact hsz)) (hs _ _)
      rw [slicePick_eq]
      have kk := (((ko.trans kl).trans ku).trans ks).trans (Kp.push s₄ { cls := .type "slice", data := .fields #[partValue pl, partValue pu, partValue ps] })
      refine ⟨⟨_, pick vs a b (some c), rfl, Nw.of kk.ext (Heap.get?_none_of_le (Nat.le_refl _)), ⟨_, Heap.get?_push_size _ rfl⟩, RepPL.pick hi' hR a b (some c)⟩, kk.trans (Kp.push _ _)⟩))

-- texts
theorem op_mul_str {x : Str} {n : Int} (hn : 0 ≤ n ∧ n ≤ 2) (hx : x.length ≤ 1000) : OpP w A h₁ .Mult (.str x) (.int n) (.str (Txt.mul x n)) := fun s E u v k t ra rb => by
  obtain ⟨a, rfl⟩ := ra; obtain ⟨b, rfl⟩ := rb
  refine wp_kp (SB.mul ⟨?_, ?_, ?_⟩ fun t' k' => ⟨⟨t', rfl⟩, s.heap, k', rfl, fun _ _ e => e⟩)
  · rw [decide_eq_false (by omega), decide_eq_false (by omega)]; rfl
  · intro h1 h2
    simp only [Bool.or_eq_false_iff, beq_eq_false_iff_ne] at h2
    have : n = 2 := by omega
    subst this
    omega
  · intro h1 _
    have : x.length * n.toNat ≤ 1000 * 1000 := Nat.mul_le_mul hx (by omega)
    unfold Builtin.Str.tooLong
    exact decide_eq_false (by rw [sizeLine_eq]; omega)
theorem ts_str {e : Expr} {x : Str} (h : EvP w A env h₁ e (.str x)) (hz : x.length ≤ 1000000) (he : ∀ whole : Sem Value, PySem.isTrue e env whole = (do let v ← whole; standAt e.pos; holding [v] (truthy v)) := by intro _; rfl) : TsP w A env h₁ e ((x.length : Int) != 0) := .mk fun s E k t =>
  wpAny_isTrue_value (h.use k t fun v s' r q => by
    obtain ⟨u, rfl⟩ := r
    exact P.truthy_str (by omega) ⟨rfl, q.trans (Kp.tok s' 2)⟩) (he _)

noncomputable def strs' (l : List Str) : List PV := l.map .str
theorem strs_vals {h : Heap} : ∀ {l : List Str} {vs : List Value}, RepL h (strs' l) vs → ∃ ts : List (Str × Tok), vs = PySem.strValues ts ∧ ts.map (·.1) = l
  | [], _, r => ⟨[], by simpa [strs', RepL, PySem.strValues] using r, rfl⟩
  | x :: l, _, r => by
    obtain ⟨v, q, rfl, ⟨t, rfl⟩, h2⟩ := r
    obtain ⟨ts, rfl, e⟩ := strs_vals h2
    exact ⟨(x, t) :: ts, rfl, by simp [e]⟩
/-- sep.join(e) -/
theorem ev_join {sep : Str} {k0 : Nat} {p0 apos pos : Pos} {e : Expr} {l : List Str} (h : EvP w A env h₁ e (.list (strs' l))) (hok : JoinOk sep l = true)
    (hline : (apos.endLine == pos.line) = true) (hs : starEach [e] env = [(false, eval e env)] := by rfl) :
    EvP w A env h₁ (.Call (.Attribute (.Constant (.str sep) k0 p0) "join" apos) [e] [] pos) (.str (Txt.join sep l)) := .mk fun s E k t => by
  refine wp_kp ?_
  refine Call_method1 (by rfl) hs hline (wpAny_Constant_str ?_)
  refine SB.join (h.use k (Nat.le_succ_of_le t) fun v s' r q => ?_)
  obtain ⟨a, vs, rfl, hl, hr⟩ := r
  obtain ⟨ts, rfl, e1⟩ := strs_vals hr
  exact ⟨a, ts, rfl, hl.isList, l, e1, hok, fun t' k' => ⟨⟨t', rfl⟩, s'.heap, k', by obtain ⟨h', tk, rfl, _⟩ := q; rfl, q.ext⟩⟩
theorem ev_lower {e : Expr} {apos pos : Pos} {x : Str} (h : EvP w A env h₁ e (.str x)) (hz : (Txt.lower x).length ≤ 1000) (hbase : attributeBase e "lower" env (eval e env) = eval e env) (hline : (apos.endLine == pos.line) = true) :
    EvP w A env h₁ (.Call (.Attribute e "lower" apos) [] [] pos) (.str (Txt.lower x)) := .mk fun s E k t =>
  Call_method0 hbase hline (h.use k t fun v s' r q => by
    obtain ⟨u, rfl⟩ := r
    refine SB.lower ?_ ⟨⟨_, rfl⟩, q.trans (Kp.tok s' 1)⟩
    unfold Builtin.Str.tooLong
    exact decide_eq_false (by rw [sizeLine_eq]; omega))

-- membership in a tuple of ints
theorem cm_in_tup {a : Int} {l : List Int} : CmP w A h₁ .In (.int a) (.tup (pInts l)) (l.any fun y => y == a) := fun s E u v k t ra rb => by
  obtain ⟨ta, rfl⟩ := ra
  obtain ⟨b, vs, rfl, hl, hr⟩ := rb
  have key : ∀ {l : List Int} {vs : List Value}, RepL s.heap (pInts l) vs → vs.any (fun v => match v with | .int y _ => y == a | _ => false) = l.any (fun y => y == a) := by
    intro l
    induction l with
    | nil => intro vs r; simp only [pInts, List.map_nil, RepL] at r; subst r; rfl
    | cons x l ih =>
      intro vs r
      obtain ⟨v, q, rfl, ⟨t, rfl⟩, h2⟩ := r
      rw [List.any_cons, List.any_cons, ih h2]
  refine SeqAt.in_tupleAt (fun v => match v with | .int y _ => y == a | _ => false) hl (fun y hy => ?_) ⟨by rw [List.any_toArray, key hr], Kp.refl s⟩
  obtain ⟨j, hj, rfl⟩ := List.getElem_of_mem (by simpa using hy)
  obtain ⟨t', e⟩ := pI_get hr j _ (List.getElem?_eq_getElem hj)
  rw [e]
  exact SeqAt.EqAt.int_int _ _ _ _
-- identity
theorem cm_isnt_none_str {x : Str} : CmP w A h₁ .IsNot (.str x) .none true := fun s E u v k t ra rb => by
  obtain ⟨a, rfl⟩ := ra
  simp only [Rep] at rb; subst rb
  exact wpAny_bind (wpAny_isSame_plain rfl (wpAny_pure ⟨rfl, Kp.refl s⟩))
theorem cm_isnt_none_none : CmP w A h₁ .IsNot .none .none false := fun s E u v k t ra rb => by
  simp only [Rep] at ra rb; subst ra rb
  exact wpAny_bind (wpAny_isSame_plain rfl (wpAny_pure ⟨rfl, Kp.refl s⟩))
end T55

end
section
open PySem PySem.W PyProof.Rows PySem.Calls
namespace T55
set_option maxRecDepth 100000
set_option linter.unusedVariables false
variable {w : World} {A : Around} {env : Env} {h₁ : Heap}

-- the set of B.1
noncomputable def b1L : List Int := [173, 847, 6150, 6155, 6156, 6157, 8203, 8204, 8205, 8288, 65279, 65024, 65025, 65026, 65027, 65028, 65029, 65030, 65031, 65032, 65033, 65034, 65035, 65036, 65037, 65038, 65039]
noncomputable def elemOk (e : Int × Value) : Bool := match e.2 with | .int k _ => e.1 == hashInt k && b1L.contains k | _ => false
theorem get64 (P : Params) : (HZ P).get? 64 = some (oD64 P) := by kernel_rfl
theorem set64 (P : Params) : ∃ es ep t, (oD64 P).ExactSet ∧ (oD64 P).data = .set es ep t ∧ es.toList.all elemOk = true ∧ b1L.all (fun k => es.toList.any fun e => Value.isInt k e.2) = true ∧ es.size = 27 ∧ t.fits 27 = true :=
  ⟨_, _, _, ⟨rfl, rfl, rfl⟩, rfl, by kernel_rfl, by kernel_rfl, by kernel_rfl, by kernel_rfl⟩
theorem setOf64 (P : Params) {h : Heap} (x : Ext (HZ P) h) : h.SetOf (intKind PW w) 64 (fun k => b1L.contains k) 27 := by
  obtain ⟨es, ep, t, hx, hd, ha, hb, hz, hf⟩ := set64 P
  have elem : ∀ e ∈ es.toList, ∃ k u, e.2 = .int k u ∧ e.1 = hashInt k ∧ b1L.contains k = true := by
    intro e he
    have := List.all_eq_true.mp ha e he
    unfold elemOk at this
    split at this
    · rename_i k u hk
      rw [Bool.and_eq_true, beq_iff_eq] at this
      exact ⟨k, u, hk, this.1, this.2⟩
    · cases this
  refine ⟨_, es, ep, t, x _ _ (get64 P), hx, hd, fun e he => ?_, fun k => ?_, by rw [hz]; decide, by rw [hz]; exact hf, hz⟩
  · obtain ⟨k, u, e1, e2, _⟩ := elem e he
    refine ⟨⟨k, by rw [e1]; exact intKind_is _ _ k u, e2⟩, by rw [e1]; rfl⟩
  · constructor
    · intro hk
      have hm : k ∈ b1L := by simpa using hk
      have := List.all_eq_true.mp hb k hm
      obtain ⟨e, he, hi⟩ := List.any_eq_true.mp this
      exact ⟨e, he, hi⟩
    · rintro ⟨e, he, hi⟩
      obtain ⟨k', u, e1, _, e3⟩ := elem e he
      rw [e1] at hi
      have hi : (k' == k) = true := hi
      rw [← eq_of_beq hi]; exact e3
theorem cm_in_b1 {k : Int} (x : Ext (HZ w.params) h₁) : ∀ (s : Shared) (E : Value → Shared → Prop) (a : Value), Ext h₁ s.heap → Rep s.heap (.int k) a →
    wpAny (model PW w) A (compareOp .In a (.ref 64)) (fun v s' => v = .bool (b1L.contains k) ∧ Kp s s') E s := fun s E a kx r => by
  obtain ⟨u, rfl⟩ := r
  exact wpAny_inSet_of (knd := intKind PW w) (k := k) (intKind_is _ _ k u) rfl (setOf64 w.params (x.trans kx)) ⟨rfl, Kp.tok s 1⟩

-- the dict of B.3
noncomputable def b3val (k : Int) : Option Str := (b3ds.find? fun d => d.1 == k).map (·.2)
theorem get75 (P : Params) : (HZ P).get? 75 = some (dO b3main) := by kernel_rfl
noncomputable def entry? (e : DictEntry) : Option (Int × Str) := match e.key, e.val with | .int k _, .str x _ => if e.hash == hashInt k then some (k, x) else none | _, _ => none
theorem b3main_eq : b3main.map entry? = b3ds.map some := by kernel_rfl
theorem ent_find (k : Int) : ∀ (es : List DictEntry) (ds : List (Int × Str)), es.map entry? = ds.map some →
    (∀ e ∈ es, ∃ k' t, e.key = .int k' t ∧ e.hash = hashInt k') ∧
    (match (ds.find? fun d => d.1 == k).map (·.2) with
      | some x => ∃ u, (es.find? fun e => Value.isInt k e.key).map (·.val) = some (.str x u)
      | none => (es.find? fun e => Value.isInt k e.key).map (·.val) = none)
  | [], [], _ => ⟨by simp, rfl⟩
  | e :: es, d :: ds, h => by
    rw [List.map_cons, List.map_cons, List.cons.injEq] at h
    obtain ⟨h1, h2⟩ := h
    obtain ⟨i1, i2⟩ := ent_find k es ds h2
    unfold entry? at h1
    split at h1
    · rename_i k' t x u e1 e2
      split at h1
      · rename_i hh
        simp only [Option.some.injEq] at h1
        subst h1
        have hhe : e.hash = hashInt k' := by simpa using hh
        refine ⟨?_, ?_⟩
        · intro e' he'
          rcases List.mem_cons.mp he' with rfl | he'
          · exact ⟨k', t, e1, hhe⟩
          · exact i1 e' he'
        · have hi : Value.isInt k e.key = (k' == k) := by rw [e1]; rfl
          rw [List.find?_cons, List.find?_cons, hi]
          by_cases hk : k' = k
          · subst hk
            simp only [beq_self_eq_true]
            exact ⟨u, by rw [Option.map_some, e2]⟩
          · have : (k' == k) = false := by simpa using hk
            simp only [this]
            exact i2
      · cases h1
    · cases h1
  | [], _ :: _, h => by cases h
  | _ :: _, [], h => by cases h
noncomputable def b3PV (k : Int) : PV := match b3val k with | some x => .str x | none => .none
theorem mapOf75 {h : Heap} (x : Ext (HZ w.params) h) : h.MapOf (intKind PW w) 75 (findBy (intKind PW w).is b3main.toArray) := by
  refine ⟨_, _, _, x _ _ (get75 w.params), ⟨rfl, rfl, rfl⟩, rfl, fun e he => ?_, fun k => rfl⟩
  obtain ⟨k', t, e1, e2⟩ := (ent_find 0 b3main b3ds b3main_eq).1 e (by simpa using he)
  exact ⟨k', by rw [e1]; exact intKind_is _ _ k' t, e2⟩
theorem ev_get {x0 : Str} {p0 apos pos : Pos} {e : Expr} {k : Int} (G : Ext (HZ w.params) h₁) (hn : NmP w A env h₁ (.Name x0 p0) (.ref 75)) (h : EvP w A env h₁ e (.int k))
    (hbase : attributeBase (.Name x0 p0) "get" env (eval (.Name x0 p0) env) = eval (.Name x0 p0) env) (hline : (apos.endLine == pos.line) = true) (hs : starEach [e] env = [(false, eval e env)] := by rfl) :
    EvP w A env h₁ (.Call (.Attribute (.Name x0 p0) "get" apos) [e] [] pos) (b3PV k) := .mk fun s E kx t => by
  refine wpAny_Call_method hbase (by rw [hs]; rfl) hline F.plainAttrs_dict F.slot_dict_get F.type_dict_get (hn.run s _ _ kx ?_)
  have g75 : s.heap.get? 75 = some (dO b3main) := kx _ _ (G _ _ (get75 w.params))
  refine ⟨⟨_, g75, rfl⟩, fun a ha => ?_, ?_⟩
  · obtain rfl : (75 : Addr) = a := by injection ha
    exact ⟨_, g75, rfl⟩
  · rw [hs]
    refine wpAny_dict_get1 (knd := intKind PW w) (by decide) (h.use kx t fun v s' r q => ?_)
    obtain ⟨u, rfl⟩ := r
    refine ⟨k, _, intKind_is _ _ k u, mapOf75 (G.trans (kx.trans q.ext)), ?_, q.trans (Kp.tok s' 1)⟩
    have := (ent_find k b3main b3ds b3main_eq).2
    unfold b3PV b3val
    have e0 : findBy (intKind PW w).is b3main.toArray k = (b3main.find? fun e => Value.isInt k e.key).map (·.val) := by
      unfold findBy
      rw [List.find?_toArray]
      rfl
    rw [e0]
    cases hx : (b3ds.find? fun d => d.1 == k).map (·.2) with
    | none => rw [hx] at this; dsimp only at this; rw [this]; rfl
    | some x => rw [hx] at this; obtain ⟨u', e⟩ := this; rw [e]; exact ⟨u', rfl⟩
end T55

end
section
open PySem PySem.W PyProof.Rows PySem.Calls
namespace T55
set_option maxRecDepth 100000
set_option linter.unusedVariables false
variable {w : World} {A : Around} {env : Env} {h₁ : Heap}

-- flat lists, compared
noncomputable def flat : PV → Bool
  | .int _ => true
  | .str x => PyData.strOk x
  | _ => false
noncomputable def toPy : PV → PyData
  | .int n => .int n
  | .str x => .str x
  | _ => .none
theorem reads_flat {h : Heap} : ∀ {l : List PV} {vs : List Value}, l.all flat = true → RepL h l vs → ReadsAll h vs (l.map toPy) []
  | [], _, _, r => by simp only [RepL] at r; subst r; exact .nil
  | p :: l, _, f, r => by
    rw [List.all_cons, Bool.and_eq_true] at f
    obtain ⟨v, q, rfl, h1, h2⟩ := r
    have h3 := reads_flat f.2 h2
    have h4 : Reads h v (toPy p) [] := by
      cases p with
      | int n => obtain ⟨t, rfl⟩ := h1; exact .int n t
      | str x => obtain ⟨t, rfl⟩ := h1; exact .str x t
      | _ => exact absurd f.1 (by simp [flat])
    exact .cons (as := []) (bs := []) h4 h3
theorem rep_reads {h : Heap} {l : List PV} {v : Value} (f : l.all flat = true) (r : Rep h (.list l) v) : ∃ as, Reads h v (.list (l.map toPy)) as := by
  obtain ⟨a, vs, rfl, ⟨n, hl⟩, hr⟩ := r
  exact ⟨_, .list hl rfl rfl (by simpa using reads_flat f hr)⟩
noncomputable def flatEq : PV → PV → Bool
  | .int a, .int b => a == b
  | .str a, .str b => a == b
  | _, _ => false
noncomputable def flatEqs : List PV → List PV → Bool
  | [], [] => true
  | a :: as, b :: bs => flatEq a b && flatEqs as bs
  | _, _ => false
theorem eqv_flat : ∀ {l l' : List PV}, l.all flat = true → l'.all flat = true → PyData.eqvAll (l.map toPy) (l'.map toPy) = flatEqs l l'
  | [], [], _, _ => rfl
  | [], _ :: _, _, _ => rfl
  | _ :: _, [], _, _ => rfl
  | a :: l, b :: l', f, g => by
    rw [List.all_cons, Bool.and_eq_true] at f g
    rw [List.map_cons, List.map_cons, PyData.eqvAll, eqv_flat f.2 g.2, flatEqs]
    congr 1
    cases a <;> cases b <;> simp [flat] at f g <;> simp [toPy, PyData.eqv, flatEq]
theorem canLay_flat {l : List PV} (f : l.all flat = true) : PyData.canLay0 (.list (l.map toPy)) = true ∧ (PyData.list (l.map toPy)).depth ≤ 1 := by
  have g : ∀ {l : List PV}, l.all flat = true → PyData.canLayAll0 (l.map toPy) = true ∧ PyData.depthAll (l.map toPy) = 0 := by
    intro l
    induction l with
    | nil => intro _; exact ⟨rfl, rfl⟩
    | cons p l ih =>
      intro f
      rw [List.all_cons, Bool.and_eq_true] at f
      obtain ⟨i1, i2⟩ := ih f.2
      cases p with
      | int n => exact ⟨by rw [List.map_cons, PyData.canLayAll0, i1]; rfl, by rw [List.map_cons, PyData.depthAll, i2]; rfl⟩
      | str x => exact ⟨by rw [List.map_cons, PyData.canLayAll0, i1, Bool.and_true]; show PyData.canLay0 (.str x) = true; rw [PyData.canLay0]; exact f.1, by rw [List.map_cons, PyData.depthAll, i2]; rfl⟩
      | _ => exact absurd f.1 (by simp [flat])
  obtain ⟨a, b⟩ := g f
  refine ⟨by rw [PyData.canLay0]; exact a, by rw [PyData.depth, b]; exact Nat.le_refl _⟩
theorem cm_eq_list {l l' : List PV} (hu : A.units + 64 < cLine) (f : l.all flat = true) (g : l'.all flat = true) : CmP w A h₁ .Eq (.list l) (.list l') (flatEqs l l') := fun s E u v k t ra rb => by
  obtain ⟨as, r1⟩ := rep_reads f ra
  obtain ⟨bs, r2⟩ := rep_reads g rb
  have c1 := canLay_flat f
  have c2 := canLay_flat g
  exact SeqAt.compareEq_reads r1 r2 c1.1 c2.1 (by have := c1.2; have := Nat.min_le_left (PyData.list (l.map toPy)).depth (PyData.list (l'.map toPy)).depth; omega) ⟨by rw [PyData.eqv, eqv_flat f g], Kp.refl s⟩
theorem cm_ne_list {l l' : List PV} (hu : A.units + 64 < cLine) (f : l.all flat = true) (g : l'.all flat = true) : CmP w A h₁ .NotEq (.list l) (.list l') (!flatEqs l l') := fun s E u v k t ra rb => by
  obtain ⟨as, r1⟩ := rep_reads f ra
  obtain ⟨bs, r2⟩ := rep_reads g rb
  have c1 := canLay_flat f
  have c2 := canLay_flat g
  exact SeqAt.compareNe_reads r1 r2 c1.1 c2.1 (by have := c1.2; have := Nat.min_le_left (PyData.list (l.map toPy)).depth (PyData.list (l'.map toPy)).depth; omega) ⟨by rw [PyData.eqv, eqv_flat f g], Kp.refl s⟩
theorem flatEqs_ints (l l' : List Int) : flatEqs (pInts l) (pInts l') = (l == l') := by
  induction l generalizing l' with
  | nil => cases l' <;> rfl
  | cons a l ih => cases l' with
    | nil => rfl
    | cons b l' => show (flatEq (.int a) (.int b) && flatEqs (pInts l) (pInts l')) = _; rw [ih]; rfl
theorem flatEqs_strs (l l' : List Str) : flatEqs (strs' l) (strs' l') = (l == l') := by
  induction l generalizing l' with
  | nil => cases l' <;> rfl
  | cons a l ih => cases l' with
    | nil => rfl
    | cons b l' => show (flatEq (.str a) (.str b) && flatEqs (strs' l) (strs' l')) = _; rw [ih]; rfl
theorem flat_ints (l : List Int) : (pInts l).all flat = true := by simp [pInts, flat]
theorem flat_strs {l : List Str} (h : ∀ x ∈ l, PyData.strOk x = true) : (strs' l).all flat = true := by
  rw [List.all_eq_true]
  intro d hd
  simp [strs'] at hd
  obtain ⟨x, hx, rfl⟩ := hd
  exact h x hx
theorem imm_ints (l : List Int) : ImmL (pInts l) := by intro d hd; simp [pInts] at hd; obtain ⟨x, _, rfl⟩ := hd; trivial
end T55

end
section
open PySem PySem.W PyProof.Rows PySem.Calls
namespace T55
set_option maxRecDepth 100000
set_option linter.unusedVariables false
variable {w : World} {A : Around} {env : Env} {h₁ : Heap}

theorem noLimZ (P : Params) : (HZ P).NoLimit := ⟨(HZ P).nsMap 2, Heap.Ns.of_isNs (by kernel_rfl), by kernel_rfl⟩
theorem noLim {h : Heap} (X : Ext (HZ w.params) h) : h.NoLimit := by
  obtain ⟨mc, a, b⟩ := noLimZ w.params
  exact ⟨mc, a.at fun o e => X _ _ e, b⟩
/-- a def that stands at an address -/
structure FnAt (P : Params) (a : Addr) (fd : FuncData) : Prop where
  ob : ∃ o, (HZ P).get? a = some o ∧ o.data = .func fd
  cd : (HZ P).CodeRec fd.code fd.qualname
noncomputable def codeB (h : Heap) (cd : Value) (q : Str) : Bool := match cd with
  | .ref c => match h.get? c with
    | some o => match o.data with
      | .fields vs => match vs[1]? with
        | some (Value.str x _) => x == q
        | _ => false
      | _ => false
    | none => false
  | _ => false
theorem codeB_spec {h : Heap} {cd : Value} {q : Str} (e : codeB h cd q = true) : h.CodeRec cd q := by
  unfold codeB at e
  split at e
  · split at e
    · rename_i o ho
      split at e
      · rename_i vs hd
        split at e
        · rename_i x t hv
          exact ⟨_, o, vs, t, rfl, ho, hd, by rw [hv, eq_of_beq e]⟩
        · cases e
      · cases e
    · cases e
  · cases e
noncomputable def fdOf (o : Obj) : FuncData := match o.data with | .func f => f | _ => default
theorem fn_add (P : Params) : FnAt P 42 (fdOf (oC42 P)) := ⟨⟨oC42 P, by kernel_rfl, by kernel_rfl⟩, codeB_spec (by kernel_rfl)⟩
theorem fn_sub (P : Params) : FnAt P 49 (fdOf (oC49 P)) := ⟨⟨oC49 P, by kernel_rfl, by kernel_rfl⟩, codeB_spec (by kernel_rfl)⟩
theorem fn_count (P : Params) : FnAt P 56 (fdOf (oC56 P)) := ⟨⟨oC56 P, by kernel_rfl, by kernel_rfl⟩, codeB_spec (by kernel_rfl)⟩
theorem fn_cost (P : Params) : FnAt P 21 (fdOf (oC21 P)) := ⟨⟨oC21 P, by kernel_rfl, by kernel_rfl⟩, codeB_spec (by kernel_rfl)⟩
theorem fn_lev (P : Params) : FnAt P 28 (fdOf (oC28 P)) := ⟨⟨oC28 P, by kernel_rfl, by kernel_rfl⟩, codeB_spec (by kernel_rfl)⟩
theorem fn_grp (P : Params) : FnAt P 35 (fdOf (oC35 P)) := ⟨⟨oC35 P, by kernel_rfl, by kernel_rfl⟩, codeB_spec (by kernel_rfl)⟩
theorem fn_inb1 (P : Params) : FnAt P 74 (fdOf (oE74 P)) := ⟨⟨oE74 P, by kernel_rfl, by kernel_rfl⟩, codeB_spec (by kernel_rfl)⟩
theorem fn_map (P : Params) : FnAt P 120 (fdOf (oG120 P)) := ⟨⟨oG120 P, by kernel_rfl, by kernel_rfl⟩, codeB_spec (by kernel_rfl)⟩
theorem fn_gone (P : Params) : FnAt P 127 (fdOf (oG127 P)) := ⟨⟨oG127 P, by kernel_rfl, by kernel_rfl⟩, codeB_spec (by kernel_rfl)⟩
theorem fn_typed (P : Params) : FnAt P 132 (fdOf (oG132 P)) := ⟨⟨oG132 P, by kernel_rfl, by kernel_rfl⟩, codeB_spec (by kernel_rfl)⟩
theorem fn_cut (P : Params) : FnAt P 139 (fdOf (oG139 P)) := ⟨⟨oG139 P, by kernel_rfl, by kernel_rfl⟩, codeB_spec (by kernel_rfl)⟩
theorem fn_masks (P : Params) : FnAt P 144 (fdOf (oG144 P)) := ⟨⟨oG144 P, by kernel_rfl, by kernel_rfl⟩, codeB_spec (by kernel_rfl)⟩
theorem fn_law (P : Params) : FnAt P 149 (fdOf (oG149 P)) := ⟨⟨oG149 P, by kernel_rfl, by kernel_rfl⟩, codeB_spec (by kernel_rfl)⟩
theorem FnAt.keeps {a : Addr} {fd : FuncData} (F : FnAt w.params a fd) (X : Ext (HZ w.params) h₁) : KeepsP h₁ (.ref a) := by
  obtain ⟨⟨o, ho, hd⟩, _⟩ := F
  exact keeps_fn (X _ _ ho) hd
theorem Ok.deeper {A : Around} {n : Nat} (h : Ok A (n + 1)) (e : Env) : Ok (A.deeper e) n := ⟨h.handled, by have := h.depth; show A.depth + 1 + n < _; omega, by have := h.units; show A.units + 3 + 10 * n + 10 < _; omega⟩

/-- names bound to data; the local namespace is nobody's item -/
structure Fr (env : Env) (ρ : List (Str × PV)) (s : Shared) : Prop where
  ns : ∃ m, s.heap.Ns env.locals m ∧ ∀ x d, ρ.lookup x = some d → ∃ v, m x = some v ∧ RepP (fun b => b ≠ env.locals) s.heap d v
  tk : 1 ≤ s.toks
theorem Fr.ev {ρ : List (Str × PV)} {s : Shared} (F : Fr env ρ s) {x : Str} {pos : Pos} {d : PV} (hx : ρ.lookup x = some d) (hk : env.scope.kind = .function) (hl : env.kindOf x = some .local) (hd : (x == ("__debug__" : Str)) = false) :
    EvP w A env s.heap (.Name x pos) d := by
  obtain ⟨m, hn, h⟩ := F.ns
  obtain ⟨v, hv, r⟩ := h x d hx
  exact ev_local hn hv r.rep hk hl hd
theorem Fr.kp {ρ : List (Str × PV)} {s s' : Shared} (F : Fr env ρ s) (k : Kp s s') : Fr env ρ s' := by
  obtain ⟨m, hn, h⟩ := F.ns
  exact ⟨⟨m, hn.at fun o e => k.ext _ _ e, fun x d hx => by obtain ⟨v, hv, r⟩ := h x d hx; exact ⟨v, hv, r.imp (fun _ y => y) fun b o _ e => k.ext _ _ e⟩⟩, Nat.le_trans F.tk k.toks⟩

/-- a call of a def -/
theorem call_def {a : Addr} {fd : FuncData} {body : List Stmt} {vs : List Value} {binds : List (Str × Value)} {s : Shared} {E : Value → Shared → Prop} {Q : Value → Shared → Prop} {n : Nat}
    (F : FnAt w.params a fd) (X : Ext (HZ w.params) s.heap) (O : Ok A (n + 1)) (hbody : fd.body = .stmts body) (hbind : bindArgs fd ⟨vs, []⟩ = pure binds)
    (hcell : fd.scope.names.all (fun x => x.2 != .cell) = true) (hloc : binds.all (fun x => fd.scope.names.lookup x.1 == some .local) = true)
    (hco : fd.scope.isCoroutine = false) (hgen : fd.scope.isGenerator = false) (hk : fd.scope.kind = .function)
    (h : ∀ (h₀ : Heap) (E' : Value → Shared → Prop), h₀.Ns s.heap.objs.size (fun x => binds.reverse.lookup x) → Ext s.heap h₀ → Ok (A.deeper (callEnv fd s.heap.objs.size a)) n →
      wpAny (model PW w) (A.deeper (callEnv fd s.heap.objs.size a)) (execs body (callEnv fd s.heap.objs.size a)) (fun f s' => Q (match f with | .ret v => v | _ => .none) s') E' { s with heap := h₀, toks := s.toks + binds.length }) :
    wpAny (model PW w) A (call (.ref a) vs) Q E s := by
  obtain ⟨⟨o, ho, hd⟩, hcd⟩ := F
  refine wpAny_call (codeAny_call_def (binds := binds) (by have := O.depth; omega) (X _ _ ho) hd (noLim X) (hcd.keeps fun _ _ e => X _ _ e) hbody (BindsTo.of_eq hbind) (fun x hx => ?_) (fun x hx => ?_) (fun h₀ hns hk' => ?_) hco hgen hk)
  · have := List.all_eq_true.mp hcell x hx
    simpa using this
  · have := List.all_eq_true.mp hloc x hx
    simpa using this
  · exact h h₀ _ hns hk' (O.deeper _)

-- statements
/-- a row of statements from a state -/
structure Sq (w : World) (A : Around) (env : Env) (ss : List Stmt) (Q : Flow → Shared → Prop) (E : Value → Shared → Prop) (s : Shared) : Prop where
  run : wpAny (model PW w) A (execs ss env) Q E s
section
variable {ρ : List (Str × PV)} {s : Shared} {E : Value → Shared → Prop} {Q : Flow → Shared → Prop}
theorem sq_nil (h : Q .next s) : Sq w A env [] Q E s := ⟨wpAny_execs_nil h⟩
theorem sq_ret {e : Expr} {pos : Pos} {rest : List Stmt} {d : PV} (h : EvP w A env s.heap e d) (t : 1 ≤ s.toks) (hq : ∀ v s', Rep s'.heap d v → Kp s s' → Q (.ret v) s') :
    Sq w A env (.Return (some e) pos :: rest) Q E s :=
  ⟨wpAny_execs_cons (wpAny_Return_some (h.use (Ext.refl _) t fun v s' r q => hq v s' r q))⟩
/-- what follows a block that may fall through -/
noncomputable def thenQ (w : World) (A : Around) (env : Env) (rest : List Stmt) (Q : Flow → Shared → Prop) (E : Value → Shared → Prop) : Flow → Shared → Prop := fun f s' => match f with
  | .next => Sq w A env rest Q E s'
  | f => Q f s'
theorem sq_if {test : Expr} {body orelse : List Stmt} {pos : Pos} {rest : List Stmt} {b : Bool} (h : TsP w A env s.heap test b) (t : 1 ≤ s.toks)
    (h1 : b = true → ∀ s', Kp s s' → Sq w A env body (thenQ w A env rest Q E) E s')
    (h2 : b = false → ∀ s', Kp s s' → Sq w A env orelse (thenQ w A env rest Q E) E s') :
    Sq w A env (.If test body orelse pos :: rest) Q E s :=
  ⟨wpAny_execs_cons (wpAny_If (h.use (Ext.refl _) t fun s' q => by
    have fin : ∀ f s'', thenQ w A env rest Q E f s'' → (match f with | .next => wpAny (model PW w) A (execs rest env) Q E s'' | f => Q f s'') := by
      intro f s'' z
      cases f with
      | next => exact z.run
      | _ => exact z
    cases b with
    | true => simp only [if_true]; exact wpAny_mono (h1 rfl s' q).run (fun f s'' z => fin f s'' z) fun _ _ e => e
    | false => simp only [Bool.false_eq_true, if_false]; exact wpAny_mono (h2 rfl s' q).run (fun f s'' z => fin f s'' z) fun _ _ e => e))⟩
theorem Fr.store {v : Value} {d : PV} {x : Str} {s' : Shared} {h' : Heap} (F : Fr env ρ s) (k : Kp s s') (r : RepP (Nw s.heap) s'.heap d v) (m' : Str → Option Value) (hm : s'.heap.Ns env.locals m')
    (hn : h'.Ns env.locals (fun y => if y = x then some v else m' y)) (sb : Heap.SameBut env.locals s'.heap h') (n : Nat) (le : s'.toks ≤ n) :
    Fr env ((x, d) :: ρ) { s' with heap := h', toks := n } ∧ TK env.locals s { s' with heap := h', toks := n } := by
  obtain ⟨m, hns, h⟩ := F.ns
  have em : m' = m := by
    have h1 := hm.eq_nsMap
    have h2 := (hns.at (h' := s'.heap) fun o e => k.ext _ _ e).eq_nsMap
    rw [h1, h2]
  subst em
  have nL : ∀ b, Nw s.heap b → b ≠ env.locals := fun b hb e => by
    subst e
    obtain ⟨o, es, ep, ho, _⟩ := hns
    rw [show s.heap.get? env.locals = none from hb] at ho; cases ho
  refine ⟨⟨⟨_, hn, fun y dy hy => ?_⟩, Nat.le_trans F.tk (Nat.le_trans k.toks le)⟩, ?_⟩
  · by_cases hyx : y = x
    · subst hyx
      simp at hy
      subst hy
      exact ⟨v, by simp, r.imp nL fun b o hb e => sb.extBut b o (nL b hb) e⟩
    · have : (y == x) = false := by simpa using hyx
      rw [List.lookup_cons, this] at hy
      obtain ⟨u, hu, ru⟩ := h y dy hy
      exact ⟨u, by simp [hyx, hu], ru.imp (fun _ z => z) fun b o hb e => sb.extBut b o hb (k.ext _ _ e)⟩
  · obtain ⟨hk, tk, rfl, e1, l1⟩ := k
    exact ⟨h', n, rfl, fun b o hb e => sb.extBut b o hb (e1 _ _ e), ⟨_, hn⟩, Nat.le_trans l1 le⟩
theorem sq_assign {x : Str} {p pos : Pos} {e : Expr} {rest : List Stmt} {d : PV} (F : Fr env ρ s) (h : EvF w A env s.heap e d) (hl : env.kindOf x = some .local) (hk : env.scope.kind = .function)
    (hq : ∀ s', Fr env ((x, d) :: ρ) s' → TK env.locals s s' → Sq w A env rest Q E s')
    (hs : swapsWith e (some (.Name x p)) pos.line env = pure false := by rfl) :
    Sq w A env (.Assign [.Name x p] e pos :: rest) Q E s := by
  refine .mk (wpAny_execs_cons (wpAny_Assign_Name (wp_use (h.run s E (Ext.refl _) F.tk) fun v s' r q => ?_) hs))
  obtain ⟨m, hns, _⟩ := F.ns
  have hns' := hns.at (h' := s'.heap) fun o e => q.ext _ _ e
  refine wpAny_storeName_local hl hns' (fun h' hn sb => ?_) (by rw [hk]; rfl)
  obtain ⟨f, k⟩ := F.store q r _ hns' hn sb _ (Nat.le_succ _)
  exact (hq _ f k).run
end
theorem cl_add_int {a b : Int} (X : Ext (HZ w.params) h₁) (O : Ok A 1) : ClP w A h₁ (.ref 42) [.int a, .int b] (.int (a + b)) := fun s E vs k t r => by
  obtain ⟨u, _, rfl, ru, v, _, rfl, rv, r0⟩ := r
  simp only [RepL] at r0; subst r0
  refine call_def (fn_add w.params) (X.trans k) O (body := bodyOf 10) (binds := [("a", u), ("b", v)]) (by kernel_rfl) (by kernel_rfl) (by kernel_rfl) (by kernel_rfl) (by kernel_rfl) (by kernel_rfl) (by kernel_rfl) fun h₀ E' hns kk O' => ?_
  refine Sq.run ?_
  conv in (bodyOf 10) => whnf
  refine sq_ret (ev_bin (ev_local hns (by rfl) (ru.ext kk) (by kernel_rfl) (by kernel_rfl) (by kernel_rfl)) (ev_local hns (by rfl) (rv.ext kk) (by kernel_rfl) (by kernel_rfl) (by kernel_rfl)) op_add_int) (Nat.le_succ_of_le (Nat.le_succ_of_le t)) fun v' s' r' q' => ⟨r', ?_⟩
  exact Kp.trans ⟨h₀, _, rfl, kk, Nat.le_succ_of_le (Nat.le_succ _)⟩ q'
end T55

end
section
open PySem PySem.W PyProof.Rows PySem.Calls
namespace T55
set_option maxRecDepth 100000
set_option linter.unusedVariables false
variable {w : World} {A : Around} {env : Env} {h₁ : Heap}

theorem lookup_rev {β : Type} : ∀ (l : List (Str × β)) (x : Str), (l.map (·.1)).Nodup → l.reverse.lookup x = l.lookup x
  | [], _, _ => rfl
  | (k, v) :: l, x, h => by
    rw [List.map_cons, List.nodup_cons] at h
    rw [List.reverse_cons, List.lookup_append, lookup_rev l x h.2, List.lookup_cons]
    by_cases e : x = k
    · subst e
      have : l.lookup x = none := by
        rw [List.lookup_eq_none_iff]
        intro p hp
        simp only [bne_iff_ne, ne_eq]
        intro e
        exact h.1 (e ▸ List.mem_map_of_mem (f := (·.1)) hp)
      rw [this]; simp
    · have e' : (x == k) = false := by simpa using e
      simp [e', List.lookup_cons]
theorem zip_lookup {P : PV → Value → Prop} : ∀ (ns : List Str) (ds : List PV) (vs : List Value), ds.length = vs.length → (∀ (i : Nat) (d : PV) (v : Value), ds[i]? = some d → vs[i]? = some v → P d v) → ∀ x d, (ns.zip ds).lookup x = some d → ∃ v, (ns.zip vs).lookup x = some v ∧ P d v
  | [], _, _, _, _, x, d, h => by simp at h
  | n :: ns, [], _, _, _, x, d, h => by simp at h
  | n :: ns, d0 :: ds, [], hl, _, _, _, _ => by simp at hl
  | n :: ns, d0 :: ds, v0 :: vs, hl, hp, x, d, h => by
    rw [List.zip_cons_cons, List.lookup_cons] at h ⊢
    by_cases e : (x == n) = true
    · rw [e] at h ⊢
      simp only [Option.some.injEq] at h
      subst h
      exact ⟨v0, rfl, hp 0 _ _ rfl rfl⟩
    · have e' : (x == n) = false := by simpa using e
      rw [e'] at h ⊢
      exact zip_lookup ns ds vs (by simpa using hl) (fun i d v a b => hp (i + 1) d v (by simpa using a) (by simpa using b)) x d h

theorem fr_init {s : Shared} {h₀ : Heap} {names : List Str} {ds : List PV} {vs : List Value} {n : Nat} {L : Addr} (hL : env.locals = L) (hsz : L = s.heap.objs.size) (hnd : names.Nodup) (hr : RepL s.heap ds vs)
    (hns : h₀.Ns L (fun x => (names.zip vs).reverse.lookup x)) (k : Ext s.heap h₀) (t : 1 ≤ n) : Fr env (names.zip ds) { s with heap := h₀, toks := n } := by
  subst hL
  refine ⟨⟨_, hns, fun x d hx => ?_⟩, t⟩
  have hk : ((names.zip vs).map (·.1)).Nodup := by
    have : ∀ (ns : List Str) (us : List Value), ((ns.zip us).map (·.1)).Sublist ns := by
      intro ns
      induction ns with
      | nil => intro us; simp
      | cons a ns ih => intro us; cases us with
        | nil => simp
        | cons u us => simp only [List.zip_cons_cons, List.map_cons]; exact List.Sublist.cons₂ _ (ih us)
    have := this names vs
    exact hnd.sublist this
  rw [lookup_rev _ _ hk]
  refine zip_lookup (P := fun d v => RepP (fun b => b ≠ env.locals) h₀ d v) names ds vs hr.length.symm (fun i d v a b => ?_) x d hx
  obtain ⟨v', hv', r⟩ := hr.get a
  rw [b] at hv'
  cases hv'
  refine r.toP.imp (fun c hc e => ?_) fun c o _ e => k _ _ e
  subst e
  rw [hsz, Heap.get?_none_of_le (Nat.le_refl _)] at hc
  cases hc

/-- what a def gives -/
theorem cl_def {a : Addr} {fd : FuncData} {body : List Stmt} {names : List Str} {ds : List PV} {d : PV} {n : Nat}
    (F : FnAt w.params a fd) (X : Ext (HZ w.params) h₁) (O : Ok A (n + 1)) (hbody : fd.body = .stmts body) (hnd : names.Nodup) (hlen : names.length = ds.length)
    (hbind : ∀ vs : List Value, vs.length = names.length → bindArgs fd ⟨vs, []⟩ = pure (names.zip vs))
    (hcell : fd.scope.names.all (fun x => x.2 != .cell) = true) (hloc : names.all (fun x => fd.scope.names.lookup x == some .local) = true)
    (hco : fd.scope.isCoroutine = false) (hgen : fd.scope.isGenerator = false) (hk : fd.scope.kind = .function)
    (h : ∀ (L : Addr) (A' : Around) (s' : Shared) (E' : Value → Shared → Prop), Ok A' n → Ext h₁ s'.heap → h₁.get? L = none → Fr (callEnv fd L a) (names.zip ds) s' →
      Sq w A' (callEnv fd L a) body (fun f s'' => ∃ v, f = .ret v ∧ Rep s''.heap d v ∧ TK L s' s'') E' s') :
    ClP w A h₁ (.ref a) ds d := fun s E vs k t r => by
  have hlv : vs.length = names.length := by rw [r.length, hlen]
  have hll : (names.zip vs).length = names.length := by rw [List.length_zip, hlv, Nat.min_self]
  refine call_def F (X.trans k) O hbody (hbind vs hlv) hcell ?_ hco hgen hk fun h₀ E' hns kk O' => ?_
  · rw [List.all_eq_true] at hloc ⊢
    intro x hx
    exact hloc x.1 (List.of_mem_zip (show (x.1, x.2) ∈ names.zip vs from hx)).1
  · have kp : Kp s { s with heap := h₀, toks := s.toks + (names.zip vs).length } := ⟨h₀, _, rfl, kk, Nat.le_add_right _ _⟩
    refine wpAny_mono (h s.heap.objs.size _ _ E' O' (k.trans kk) (by
      cases e : h₁.get? s.heap.objs.size with
      | none => rfl
      | some o => exact absurd (Heap.lt_size (k _ _ e)) (Nat.lt_irrefl _)) (fr_init rfl rfl hnd r hns kk (Nat.le_trans t (Nat.le_add_right _ _)))).run (fun f s'' z => ?_) fun _ _ e => e
    obtain ⟨v, rfl, rv, tk⟩ := z
    refine ⟨rv, ?_⟩
    obtain ⟨h2, t2, rfl, e2, _, l2⟩ := tk
    exact ⟨h2, t2, rfl, fun b o e => e2 b o (Nat.ne_of_lt (Heap.lt_size e)) (kk _ _ e), Nat.le_trans (Nat.le_add_right _ _) l2⟩
theorem vlen1 {vs : List Value} (h : vs.length = 1) : ∃ u, vs = [u] := List.length_eq_one_iff.mp h
theorem vlen2 {vs : List Value} (h : vs.length = 2) : ∃ u v, vs = [u, v] := by
  match vs, h with
  | [u, v], _ => exact ⟨u, v, rfl⟩
theorem vlen3 {vs : List Value} (h : vs.length = 3) : ∃ u v x, vs = [u, v, x] := by
  match vs, h with
  | [u, v, x], _ => exact ⟨u, v, x, rfl⟩
theorem vlen4 {vs : List Value} (h : vs.length = 4) : ∃ u v x y, vs = [u, v, x, y] := by
  match vs, h with
  | [u, v, x, y], _ => exact ⟨u, v, x, y, rfl⟩
theorem Fr.tk' {ρ : List (Str × PV)} {s s' : Shared} (F : Fr env ρ s) (k : Kp s s') : TK env.locals s s' := by
  obtain ⟨m, hn, _⟩ := F.ns
  exact TK.of_kp hn k

theorem cl_sub_int {a b : Int} (X : Ext (HZ w.params) h₁) (O : Ok A 1) : ClP w A h₁ (.ref 49) [.int a, .int b] (.int (a - b)) := by
  refine cl_def (fn_sub w.params) X O (body := bodyOf 11) (names := ["a", "b"]) (by kernel_rfl) (by decide) rfl (fun vs h => by obtain ⟨u, v, rfl⟩ := vlen2 h; kernel_rfl) (by kernel_rfl) (by kernel_rfl) (by kernel_rfl) (by kernel_rfl) (by kernel_rfl) fun L A' s' E' O' X' hL F => ?_
  conv in (bodyOf 11) => whnf
  exact sq_ret (ev_bin (F.ev (by rfl) (by kernel_rfl) (by kernel_rfl) (by kernel_rfl)) (F.ev (by rfl) (by kernel_rfl) (by kernel_rfl) (by kernel_rfl)) op_sub_int) F.tk fun v s'' r q => ⟨v, rfl, r, F.tk' q⟩
theorem cl_add_str {a b : Str} (hz : a.length + b.length ≤ sizeLine) (X : Ext (HZ w.params) h₁) (O : Ok A 1) : ClP w A h₁ (.ref 42) [.str a, .str b] (.str (a ++ b)) := by
  refine cl_def (fn_add w.params) X O (body := bodyOf 10) (names := ["a", "b"]) (by kernel_rfl) (by decide) rfl (fun vs h => by obtain ⟨u, v, rfl⟩ := vlen2 h; kernel_rfl) (by kernel_rfl) (by kernel_rfl) (by kernel_rfl) (by kernel_rfl) (by kernel_rfl) fun L A' s' E' O' X' hL F => ?_
  conv in (bodyOf 10) => whnf
  exact sq_ret (ev_bin (F.ev (by rfl) (by kernel_rfl) (by kernel_rfl) (by kernel_rfl)) (F.ev (by rfl) (by kernel_rfl) (by kernel_rfl) (by kernel_rfl)) (op_add_str hz)) F.tk fun v s'' r q => ⟨v, rfl, r, F.tk' q⟩
end T55

end
section
open PySem PySem.W PyProof.Rows PySem.Calls
namespace T55
set_option maxRecDepth 100000
set_option linter.unusedVariables false
variable {w : World} {A : Around} {env : Env} {h₁ : Heap}

theorem ev_gname {x : Str} {p : Pos} {v : Value} {d : PV} (G : GE w env h₁) (hx : env.kindOf x = some .globalImplicit) (hv : gmap w.params x = some v) (r : ∀ h, Rep h d v) (hd : (x == ("__debug__" : Str)) = false) : EvP w A env h₁ (.Name x p) d := .mk fun s E k t =>
  (nm_global (A := A) G hx hv hd).run s E _ k ⟨r _, Kp.refl s⟩
theorem g_move (P : Params) : ∃ t, gmap P "_MOVE_COST" = some (.int 2 t) := ⟨191, by kernel_rfl⟩
theorem g_case (P : Params) : ∃ t, gmap P "_CASE_COST" = some (.int 1 t) := ⟨193, by kernel_rfl⟩
theorem g_maxs (P : Params) : ∃ t, gmap P "_MAX_STRING_SIZE" = some (.int 40 t) := ⟨189, by kernel_rfl⟩
theorem g_cmax (P : Params) : ∃ t, gmap P "CHAR_MAX" = some (.int 127 t) := ⟨225, by kernel_rfl⟩
theorem ge_call {fd : FuncData} {L a : Addr} (hg : fd.globals = 3) (hb : fd.builtins = 0) (hk : fd.scope.kind = .function) (X : Ext (HZ w.params) h₁) : GE w (callEnv fd L a) h₁ := ⟨hg, hb, hk, X⟩

noncomputable def cost (x y : Str) : Int := if x == y then 0 else if Txt.lower x == Txt.lower y then 1 else 2
theorem cl_cost {x y : Str} (hx : (Txt.lower x).length ≤ 1000) (hy : (Txt.lower y).length ≤ 1000) (X : Ext (HZ w.params) h₁) (O : Ok A 1) : ClP w A h₁ (.ref 21) [.str x, .str y] (.int (cost x y)) := by
  refine cl_def (fn_cost w.params) X O (body := bodyOf 4) (names := ["ch_a", "ch_b"]) (by kernel_rfl) (by decide) rfl (fun vs h => by obtain ⟨u, v, rfl⟩ := vlen2 h; kernel_rfl) (by kernel_rfl) (by kernel_rfl) (by kernel_rfl) (by kernel_rfl) (by kernel_rfl) fun L A' s' E' O' X' hL F => ?_
  conv in (bodyOf 4) => whnf
  have ea : ∀ {s : Shared} {p : Pos}, Fr (callEnv (fdOf (oC21 w.params)) L 21) (List.zip (["ch_a", "ch_b"] : List Str) [PV.str x, PV.str y]) s → EvP w A' (callEnv (fdOf (oC21 w.params)) L 21) s.heap (.Name "ch_a" p) (.str x) := fun F => F.ev (by rfl) (by kernel_rfl) (by kernel_rfl) (by kernel_rfl)
  have eb : ∀ {s : Shared} {p : Pos}, Fr (callEnv (fdOf (oC21 w.params)) L 21) (List.zip (["ch_a", "ch_b"] : List Str) [PV.str x, PV.str y]) s → EvP w A' (callEnv (fdOf (oC21 w.params)) L 21) s.heap (.Name "ch_b" p) (.str y) := fun F => F.ev (by rfl) (by kernel_rfl) (by kernel_rfl) (by kernel_rfl)
  obtain ⟨t1, g1⟩ := g_case w.params
  obtain ⟨t2, g2⟩ := g_move w.params
  refine sq_if (ts_cmp (ea F) (eb F) cm_eq_str) F.tk (fun h s1 k1 => ?_) (fun h s1 k1 => ?_)
  · refine sq_ret ev_int (F.kp k1).tk fun v s'' r q => ⟨v, rfl, ?_, F.tk' (k1.trans q)⟩
    unfold cost; rw [h]; exact r
  · refine sq_nil ?_
    have F1 := F.kp k1
    refine sq_if (ts_cmp (ev_lower (ea F1) hx (by kernel_rfl) (by kernel_rfl)) (ev_lower (eb F1) hy (by kernel_rfl) (by kernel_rfl)) cm_eq_str) F1.tk (fun h' s2 k2 => ?_) (fun h' s2 k2 => ?_)
    · refine sq_ret (ev_gname (d := .int 1) (ge_call (by kernel_rfl) (by kernel_rfl) (by kernel_rfl) ((X.trans X').trans (k1.trans k2).ext)) (by kernel_rfl) g1 (fun _ => ⟨t1, rfl⟩) (by kernel_rfl)) (F1.kp k2).tk fun v s'' r q => ⟨v, rfl, ?_, F.tk' ((k1.trans k2).trans q)⟩
      unfold cost; rw [h, h']; exact r
    · refine sq_nil ?_
      refine sq_ret (ev_gname (d := .int 2) (ge_call (by kernel_rfl) (by kernel_rfl) (by kernel_rfl) ((X.trans X').trans (k1.trans k2).ext)) (by kernel_rfl) g2 (fun _ => ⟨t2, rfl⟩) (by kernel_rfl)) (F1.kp k2).tk fun v s'' r q => ⟨v, rfl, ?_, F.tk' ((k1.trans k2).trans q)⟩
      unfold cost; rw [h, h']; exact r

theorem ev_ord {e : Expr} {p pos : Pos} {c : Nat} (G : GE w env h₁) (hx : env.kindOf "ord" = some .globalImplicit) (h : EvP w A env h₁ e (.str ⟨#[c]⟩)) (hs : ∀ rest, starEach (e :: rest) env = (false, eval e env) :: starEach rest env := by intro _; rfl) :
    EvP w A env h₁ (.Call (.Name "ord" p) [e] [] pos) (.int c) :=
  ev_call (nm_builtin G hx (b_ord w.params) (by kernel_rfl)) (keeps_val fun a => by simp) (args_cons h args_nil hs) (by simp) cl_ord
theorem cl_inb1 {c : Nat} (X : Ext (HZ w.params) h₁) (O : Ok A 1) : ClP w A h₁ (.ref 74) [.str ⟨#[c]⟩] (.bool (b1L.contains (c : Int))) := by
  refine cl_def (fn_inb1 w.params) X O (body := bodyOf 15) (names := ["code"]) (by kernel_rfl) (by decide) rfl (fun vs h => by obtain ⟨u, rfl⟩ := vlen1 h; kernel_rfl) (by kernel_rfl) (by kernel_rfl) (by kernel_rfl) (by kernel_rfl) (by kernel_rfl) fun L A' s' E' O' X' hL F => ?_
  conv in (bodyOf 15) => whnf
  have G := ge_call (w := w) (fd := fdOf (oE74 w.params)) (L := L) (a := 74) (by kernel_rfl) (by kernel_rfl) (by kernel_rfl) (X.trans X')
  refine sq_ret (d := .bool (b1L.contains (c : Int))) ?_ F.tk fun v s'' r q => ⟨v, rfl, r, F.tk' q⟩
  constructor
  intro s E k t
  refine wpAny_Compare1 ((ev_ord G (by kernel_rfl) (F.ev (by rfl) (by kernel_rfl) (by kernel_rfl) (by kernel_rfl))).use k t fun a s₁ ra ka => ?_) (by rfl)
  refine (nm_global G (by kernel_rfl) (g_b1 w.params) (by kernel_rfl)).run s₁ _ _ (k.trans ka.ext) ?_
  exact wp_use (cm_in_b1 (h₁ := s'.heap) ((X.trans X')) s₁ _ a (k.trans ka.ext) ra) fun v s'' e q => ⟨e, ka.trans q⟩
end T55

end
section
open PySem PySem.W PyProof.Rows PySem.Calls
namespace T55
set_option maxRecDepth 100000
set_option linter.unusedVariables false
variable {w : World} {A : Around} {env : Env} {h₁ : Heap}

noncomputable def mapc (c : Nat) : Str := match b3val c with | some x => x | none => Txt.lower ⟨#[c]⟩
theorem cl_map {c : Nat} (hz : (Txt.lower ⟨#[c]⟩).length ≤ 1000) (X : Ext (HZ w.params) h₁) (O : Ok A 1) : ClP w A h₁ (.ref 120) [.str ⟨#[c]⟩] (.str (mapc c)) := by
  refine cl_def (fn_map w.params) X O (body := bodyOf 17) (names := ["code"]) (by kernel_rfl) (by decide) rfl (fun vs h => by obtain ⟨u, rfl⟩ := vlen1 h; kernel_rfl) (by kernel_rfl) (by kernel_rfl) (by kernel_rfl) (by kernel_rfl) (by kernel_rfl) fun L A' s' E' O' X' hL F => ?_
  conv in (bodyOf 17) => whnf
  have G := ge_call (w := w) (fd := fdOf (oG120 w.params)) (L := L) (a := 120) (by kernel_rfl) (by kernel_rfl) (by kernel_rfl) (X.trans X')
  have im : Imm (b3PV c) := by unfold b3PV; split <;> trivial
  refine sq_assign F (EvP.imm (ev_get (X.trans X') (nm_global G (by kernel_rfl) (g_b3 w.params) (by kernel_rfl)) (ev_ord G (by kernel_rfl) (F.ev (by rfl) (by kernel_rfl) (by kernel_rfl) (by kernel_rfl))) (by rfl) (by rfl)) im) (by kernel_rfl) (by kernel_rfl) (fun s1 F1 k1 => ?_)
  have tk1 : TK L s' s1 := k1
  cases hb : b3val c with
  | some x =>
    have e1 : b3PV c = .str x := by unfold b3PV; rw [hb]
    rw [e1] at F1
    refine sq_if (b := true) (ts_cmp (F1.ev (by rfl) (by kernel_rfl) (by kernel_rfl) (by kernel_rfl)) ev_none cm_isnt_none_str) F1.tk (fun _ s2 k2 => ?_) (fun h => by cases h)
    refine sq_ret ((F1.kp k2).ev (d := .str x) (by rfl) (by kernel_rfl) (by kernel_rfl) (by kernel_rfl)) (F1.kp k2).tk fun v s3 r q => ⟨v, rfl, ?_, tk1.trans (F1.tk' (k2.trans q))⟩
    unfold mapc; rw [hb]; exact r
  | none =>
    have e1 : b3PV c = .none := by unfold b3PV; rw [hb]
    rw [e1] at F1
    refine sq_if (b := false) (ts_cmp (F1.ev (by rfl) (by kernel_rfl) (by kernel_rfl) (by kernel_rfl)) ev_none cm_isnt_none_none) F1.tk (fun h => by cases h) (fun _ s2 k2 => sq_nil ?_)
    refine sq_ret (ev_lower ((F1.kp k2).ev (d := .str ⟨#[c]⟩) (by rfl) (by kernel_rfl) (by kernel_rfl) (by kernel_rfl)) hz (by kernel_rfl) (by kernel_rfl)) (F1.kp k2).tk fun v s3 r q => ⟨v, rfl, ?_, tk1.trans (F1.tk' (k2.trans q))⟩
    unfold mapc; rw [hb]; exact r

noncomputable def fewL : List Int := [173, 847, 6150, 6155, 6156, 6157, 8203, 8204, 8205, 8288, 65279]
noncomputable def goneC (t : Int) : Int := if Int.fmod t 27 < 11 then fewL.getD (Int.fmod t 27).toNat 0 else 65013 + Int.fmod t 27
theorem gone_range (t : Int) : 0 ≤ goneC t ∧ goneC t ≤ 65279 := by
  have h0 := Int.fmod_nonneg_of_pos t (show (0 : Int) < 27 by decide)
  have h1 := Int.fmod_lt_of_pos t (show (0 : Int) < 27 by decide)
  unfold goneC
  split
  · have : ∀ n : Nat, n < 11 → 0 ≤ fewL.getD n 0 ∧ fewL.getD n 0 ≤ 65279 := by decide
    exact this _ (by omega)
  · omega
end T55

end
section
open PySem PySem.W PyProof.Rows PySem.Calls
namespace T55
set_option maxRecDepth 100000
set_option linter.unusedVariables false
variable {w : World} {A : Around} {env : Env} {h₁ : Heap}
noncomputable def constInts : List Expr → Option (List Int)
  | [] => some []
  | .Constant (.int k) _ _ :: es => (constInts es).map (k :: ·)
  | _ => none
theorem args_consts : ∀ {es : List Expr} {l : List Int}, constInts es = some l → ArgsP w A env h₁ es (pInts l) := by
  intro es
  induction es using constInts.induct with
  | case1 => intro l h; simp [constInts] at h; subst h; exact args_nil
  | case2 k a b es ih =>
    intro l h
    rw [constInts, Option.map_eq_some_iff] at h
    obtain ⟨l', h', rfl⟩ := h
    exact args_cons ev_int (ih h')
  | case3 es h1 h2 => intro l h; rw [constInts] at h; cases h; exact h1; exact h2
set_option maxHeartbeats 400000 in
theorem cl_gone {t : Int} (X : Ext (HZ w.params) h₁) (O : Ok A 1) : ClP w A h₁ (.ref 127) [.int t] (.str ⟨#[(goneC t).toNat]⟩) := by
  refine cl_def (fn_gone w.params) X O (body := bodyOf 19) (names := ["turn"]) (by kernel_rfl) (by decide) rfl (fun vs h => by obtain ⟨u, rfl⟩ := vlen1 h; kernel_rfl) (by kernel_rfl) (by kernel_rfl) (by kernel_rfl) (by kernel_rfl) (by kernel_rfl) fun L A' s' E' O' X' hL F => ?_
  conv in (bodyOf 19) => whnf
  have h0 := Int.fmod_nonneg_of_pos t (show (0 : Int) < 27 by decide)
  have h1 := Int.fmod_lt_of_pos t (show (0 : Int) < 27 by decide)
  refine sq_assign F (EvP.imm (ev_bin (F.ev (by rfl) (by kernel_rfl) (by kernel_rfl) (by kernel_rfl)) ev_int (op_mod_int (by decide))) trivial) (by kernel_rfl) (by kernel_rfl) (fun s1 F1 k1 => ?_)
  have tk1 : TK L s' s1 := k1
  refine sq_assign (d := .tup (pInts fewL)) F1 (ev_tupleF (args_consts (l := fewL) (by kernel_rfl)) (imm_ints fewL) (by rw [sizeLine_eq]; decide)) (by kernel_rfl) (by kernel_rfl) (fun s2 F2 k2 => ?_) (by kernel_rfl)
  have tk2 : TK L s1 s2 := k2
  have X2 : Ext (HZ w.params) s2.heap := X.trans ((tk1.trans tk2).ext hL X')
  have G := ge_call (w := w) (fd := fdOf (oG127 w.params)) (L := L) (a := 127) (by kernel_rfl) (by kernel_rfl) (by kernel_rfl) X2
  obtain ⟨r0, r1⟩ := gone_range t
  have hp : ∀ {p : Pos}, EvP w A' (callEnv (fdOf (oG127 w.params)) L 127) s2.heap (.Name "place" p) (.int (Int.fmod t 27)) := F2.ev (by rfl) (by kernel_rfl) (by kernel_rfl) (by kernel_rfl)
  refine sq_ret (ev_call (nm_builtin G (by kernel_rfl) (b_chr w.params) (by kernel_rfl)) (keeps_val fun a => by simp) (args_cons (d := .int (goneC t)) (ev_ifexp (x := decide (Int.fmod t 27 < 11)) (ts_cmp hp ev_int cm_lt_int) (fun hlt => ?_) (fun hge => ?_)) args_nil) (by simp) (cl_chr r0 (by omega))) F2.tk fun v s3 r q => ⟨v, rfl, r, (tk1.trans tk2).trans (F2.tk' q)⟩
  · have hlt := of_decide_eq_true hlt
    refine ev_item_tup (l := pInts fewL) (F2.ev (by rfl) (by kernel_rfl) (by kernel_rfl) (by kernel_rfl)) hp h0 (by omega) ?_
    unfold goneC; rw [if_pos hlt]
    have : ∀ n : Nat, n < 11 → (fewL)[n]? = some (fewL.getD n 0) := by decide
    unfold pInts
    rw [List.getElem?_map, this _ (by omega)]; rfl
  · have hge := of_decide_eq_false hge
    have e : goneC t = 65013 + Int.fmod t 27 := by unfold goneC; rw [if_neg hge]
    rw [e]
    exact ev_bin ev_int hp op_add_int
end T55

end
section
open PySem PySem.W PyProof.Rows PySem.Calls
namespace T55
set_option maxRecDepth 100000
set_option linter.unusedVariables false
variable {w : World} {A : Around} {env : Env} {h₁ : Heap} {ρ : List (Str × PV)} {s : Shared} {E : Value → Shared → Prop} {Q : Flow → Shared → Prop}

theorem sq_while {test : Expr} {body rest : List Stmt} {pos : Pos} (I : Nat → Shared → Prop) (n : Nat) (h : I n s)
    (turn : ∀ n (s : Shared) (E' : Value → Shared → Prop), I n s → 1 ≤ s.toks ∧ ∃ b, TsP w A env s.heap test b ∧ (b = true → ∀ s', Kp s s' → Sq w A env body (fun f s₃ => f = .next ∧ ∃ m, m < n ∧ I m s₃) E' s') ∧
      (b = false → ∀ s', Kp s s' → Sq w A env rest Q E s')) :
    Sq w A env (.While test body [] pos :: rest) Q E s := by
  refine .mk (wpAny_execs_cons (wpAny_While (codeAny_whileLoop I (fun n s hI => ?_) n h)))
  obtain ⟨t, b, hb, h1, h2⟩ := turn n s (notedBy (model PW w) A env fun e s' => cameBackBy (model PW w) A env E e s') hI
  refine hb.use (Ext.refl _) t fun s' k => ?_
  cases b with
  | true =>
    simp only [if_true]
    exact wpAny_mono (h1 rfl s' k).run (fun f s₃ z => by obtain ⟨rfl, z⟩ := z; exact z) fun _ _ e => e
  | false =>
    simp only [Bool.false_eq_true, if_false]
    exact wpAny_execs_nil (h2 rfl s' k).run
theorem sq_aug {x : Str} {p pos : Pos} {op : Operator} {e : Expr} {rest : List Stmt} {d0 d1 d : PV} (F : Fr env ρ s) (hx : ρ.lookup x = some d0) (h : EvP w A env s.heap e d1)
    (hop : ∀ (s : Shared) (E : Value → Shared → Prop) (a b : Value), 1 ≤ s.toks → Rep s.heap d0 a → Rep s.heap d1 b → wpAny (model PW w) A (inplaceOp op a b) (fun v s' => Rep s'.heap d v ∧ Kp s s') E s)
    (hi : Imm d) (hl : env.kindOf x = some .local) (hk : env.scope.kind = .function) (hq : ∀ s', Fr env ((x, d) :: ρ) s' → TK env.locals s s' → Sq w A env rest Q E s') :
    Sq w A env (.AugAssign (.Name x p) op e pos :: rest) Q E s := by
  obtain ⟨m, hns, hm⟩ := id F.ns
  obtain ⟨u, hu, ru⟩ := hm x d0 hx
  refine .mk (wpAny_execs_cons (wpAny_AugAssign_Name (wpAny_loadName_local hk hl hns hu ?_)))
  refine h.use (Ext.refl _) F.tk fun v s₁ r q => ?_
  refine wp_use (hop s₁ _ u v (Nat.le_trans F.tk q.toks) (ru.rep.ext q.ext) r) fun v' s₂ r' q' => ?_
  have kk := q.trans q'
  have hns' := hns.at (h' := s₂.heap) fun o e => kk.ext _ _ e
  refine wpAny_storeName_local hl hns' (fun h' hn sb => ?_) (by rw [hk]; rfl)
  obtain ⟨f, k⟩ := F.store kk (RepP.imm hi r') _ hns' hn sb _ (Nat.le_succ _)
  exact (hq _ f k).run
end T55

end
section
open PySem PySem.W PyProof.Rows PySem.Calls
namespace T55
set_option maxRecDepth 100000
set_option linter.unusedVariables false
variable {w : World} {A : Around} {env : Env} {h₁ : Heap}

/-- e or None, as a bound of a slice -/
theorem part_or {e : Expr} {k0 : Nat} {p0 pos : Pos} {n : Int} (h : EvP w A env h₁ e (.int n)) : PartP w A env h₁ (some (.BoolOp .Or [e, .Constant .none k0 p0] pos)) (if n = 0 then none else some n) := .mk fun s E k t => by
  show wpAny _ _ (boolOp pos .Or [eval e env, eval (.Constant .none k0 p0) env]) _ _ _
  refine wpAny_bind (h.use k t fun v s' r q => wpAny_bind (wpAny_standAt (wpAny_bind (wpAny_holding ?_))))
  obtain ⟨u, rfl⟩ := r
  refine PySem.P.truthy_int ?_
  by_cases hn : n = 0
  · subst hn
    refine wpAny_Constant_none ⟨⟨none, rfl, rfl⟩, q⟩
  · have : (n != 0) = true := by simpa using hn
    rw [this]
    refine wpAny_pure ⟨⟨some (n, u), rfl, by rw [if_neg hn]; rfl⟩, q⟩
/-- item, a negative index allowed -/
theorem ev_neg_item {e1 e2 : Expr} {pos : Pos} {x : Str} {k : Int} (h1 : EvP w A env h₁ e1 (.str x)) (h2 : EvP w A env h₁ e2 (.int k)) (hz : x.length ≤ 1000000) (hlo : -(x.length : Int) ≤ k) (hhi : k < x.length)
    (hs : ∀ o i, subscripted e2 false o i = operate [o, i] (getItem o i) := by intro _ _; rfl) (ht : ∀ o r, letTemporaryGo e1 o r = pure () := by intro _ _; rfl) : EvP w A env h₁ (.Subscript e1 e2 pos) (.str (Txt.item x k)) :=
  ev_item_str h1 h2 (by unfold fitsSsize; rw [decide_eq_false (by omega), decide_eq_false (by omega)]; rfl) hlo hhi hs ht
end T55

end
section
open PySem PySem.W PyProof.Rows PySem.Calls
namespace T55
set_option maxRecDepth 100000
set_option linter.unusedVariables false
variable {w : World} {A : Around} {env : Env} {h₁ : Heap} {ρ : List (Str × PV)} {s : Shared} {E : Value → Shared → Prop} {Q : Flow → Shared → Prop}

theorem Fr.nL (F : T55.Fr env ρ s) : ∀ b, Nw s.heap b → b ≠ env.locals := fun b hb e => by
  obtain ⟨m, hns, _⟩ := F.ns
  subst e
  obtain ⟨o, es, ep, ho, _⟩ := hns
  rw [show s.heap.get? env.locals = none from hb] at ho; cases ho
/-- a store whose value lies in no local namespace -/
theorem Fr.put {v : Value} {d : PV} {x : Str} {h' : Heap} (F : T55.Fr env ρ s) (r : RepP (fun b => b ≠ env.locals) s.heap d v) {m : Str → Option Value} (hm : s.heap.Ns env.locals m)
    (hn : h'.Ns env.locals (fun y => if y = x then some v else m y)) (sb : Heap.SameBut env.locals s.heap h') (n : Nat) (le : s.toks ≤ n) :
    T55.Fr env ((x, d) :: ρ) { s with heap := h', toks := n } ∧ TK env.locals s { s with heap := h', toks := n } := by
  obtain ⟨m', hns, h⟩ := F.ns
  have em : m = m' := by rw [hm.eq_nsMap, hns.eq_nsMap]
  subst em
  refine ⟨⟨⟨_, hn, fun y dy hy => ?_⟩, Nat.le_trans F.tk le⟩, ⟨h', n, rfl, fun b o hb e => sb.extBut b o hb e, ⟨_, hn⟩, le⟩⟩
  by_cases hyx : y = x
  · subst hyx
    simp at hy
    subst hy
    exact ⟨v, by simp, r.imp (fun _ z => z) fun b o hb e => sb.extBut b o hb e⟩
  · have : (y == x) = false := by simpa using hyx
    rw [List.lookup_cons, this] at hy
    obtain ⟨u, hu, ru⟩ := h y dy hy
    exact ⟨u, by simp [hyx, hu], ru.imp (fun _ z => z) fun b o hb e => sb.extBut b o hb e⟩
theorem TK.kp_left {C : Addr} {s s' s'' : Shared} (a : Kp s s') (b : TK C s' s'') : TK C s s'' := by
  obtain ⟨h1, t1, rfl, e1, l1⟩ := a
  obtain ⟨h2, t2, rfl, e2, n2, l2⟩ := b
  exact ⟨h2, t2, rfl, fun b o ne e => e2 b o ne (e1 b o e), n2, Nat.le_trans l1 l2⟩
/-- x, y = e1, e2: the stores go from the right -/
theorem sq_tup2 {x y : Str} {e1 e2 : Expr} {p1 p2 tp vp pos : Pos} {k kv : Nat} {rest : List Stmt} {d1 d2 : PV} (hh : A.handled = none) (F : T55.Fr env ρ s) (h1 : EvF w A env s.heap e1 d1) (h2 : EvF w A env s.heap e2 d2)
    (hx : env.kindOf x = some .local) (hy : env.kindOf y = some .local) (hk : env.scope.kind = .function)
    (hq : ∀ s', T55.Fr env ((x, d1) :: (y, d2) :: ρ) s' → TK env.locals s s' → Sq w A env rest Q E s')
    (hs : swapsWithSole [.Tuple [.Name x p1, .Name y p2] k tp] (.Tuple [e1, e2] kv vp) pos.line env = pure false)
    (hw : swappedStores [.Tuple [.Name x p1, .Name y p2] k tp] (.Tuple [e1, e2] kv vp) env = pure (some [x, y]))
    (hs1 : ∀ rest, starEach (e1 :: rest) env = (false, eval e1 env) :: starEach rest env := by intro _; rfl) (hs2 : ∀ rest, starEach (e2 :: rest) env = (false, eval e2 env) :: starEach rest env := by intro _; rfl) :
    Sq w A env (.Assign [.Tuple [.Name x p1, .Name y p2] k tp] (.Tuple [e1, e2] kv vp) pos :: rest) Q E s := by
  refine .mk (wpAny_execs_cons (Assign_Tuple_swapped (names := [x, y]) (wpAny_Tuple_spliced (wpAny_items_cons (wp_use (h1.run s E (Ext.refl _) F.tk) fun v1 s₁ r1 q1 =>
    wpAny_items_cons (wp_use (h2.run s₁ E q1.ext (Nat.le_trans F.tk q1.toks)) fun v2 s₂ r2 q2 => wpAny_items_nil ?_) (hs2 [])) (hs1 _))) hs hw))
  refine ⟨by rw [sizeLine_eq]; show 2 ≤ 16777216; decide, ?_⟩
  have kk := q1.trans q2
  have ht : (s₂.heap.push { cls := .type "tuple", data := .seq [v1, v2].toArray }).IsTuple s₂.heap.objs.size #[v1, v2] := ⟨_, Heap.get?_push_size _ rfl, rfl, _, rfl⟩
  refine wpAny_unpackItems_tuple (t := s₂.heap.objs.size) (items := #[v1, v2]) hh ht fun h3 he => ?_
  have k3 : Kp s { s₂ with heap := h3 } := by
    obtain ⟨h2', t2', rfl, x2, l2⟩ := kk
    refine ⟨h3, t2', rfl, fun b o e => ?_, l2⟩
    have e2 := x2 b o e
    exact he b o (by
      show b ≠ (Heap.push _ _).objs.size
      rw [Heap.size_push]; exact Nat.ne_of_lt (Nat.lt_succ_of_lt (Heap.lt_size e2))) (Heap.get?_push_of_some _ e2)
  have up : ∀ b o, s₂.heap.get? b = some o → h3.get? b = some o := fun b o e => he b o (by
      show b ≠ (Heap.push _ _).objs.size
      rw [Heap.size_push]; exact Nat.ne_of_lt (Nat.lt_succ_of_lt (Heap.lt_size e))) (Heap.get?_push_of_some _ e)
  have F3 := F.kp k3
  have rv1 : RepP (fun b => b ≠ env.locals) h3 d1 v1 := r1.imp (F.nL) fun b o _ e => up b o (q2.ext _ _ e)
  have rv2 : RepP (fun b => b ≠ env.locals) h3 d2 v2 := r2.imp (fun b hb => F.nL b (Nw.of q1.ext hb)) fun b o _ e => up b o e
  obtain ⟨m, hns, _⟩ := id F3.ns
  show wpAny _ _ (assignInOrder [fun v => bindName env y v, fun v => bindName env x v] [v2, v1]) _ _ _
  refine wpAny_assignInOrder_more (wpAny_bindName (wpAny_storeName_local hy hns (fun h4 hn4 sb4 => ?_) (by rw [hk]; rfl)))
  obtain ⟨F4, t4⟩ := F3.put rv2 hns hn4 sb4 _ (Nat.le_succ _)
  refine wpAny_assignInOrder_more (wpAny_bindName (wpAny_storeName_local hx hn4 (fun h5 hn5 sb5 => ?_) (by rw [hk]; rfl)))
  obtain ⟨F5, t5⟩ := F4.put (rv1.imp (fun _ z => z) fun b o hb e => sb4.extBut b o hb e) hn4 hn5 sb5 _ (Nat.le_succ _)
  refine wpAny_assignInOrder_none ?_
  exact (hq _ F5 (TK.kp_left k3 (t4.trans t5))).run
end T55

end
section
open PySem PySem.W PyProof.Rows PySem.Calls
namespace T55
set_option maxRecDepth 100000
set_option linter.unusedVariables false
variable {w : World} {A : Around} {env : Env} {h₁ : Heap} {ρ : List (Str × PV)} {s : Shared} {E : Value → Shared → Prop} {Q : Flow → Shared → Prop}

/-- x = y = e, an immediate -/
theorem sq_assign2 {x y : Str} {p1 p2 pos : Pos} {e : Expr} {rest : List Stmt} {d : PV} (F : T55.Fr env ρ s) (h : EvP w A env s.heap e d) (hi : Imm d) (hx : env.kindOf x = some .local) (hy : env.kindOf y = some .local) (hk : env.scope.kind = .function)
    (hq : ∀ s', T55.Fr env ((y, d) :: (x, d) :: ρ) s' → TK env.locals s s' → Sq w A env rest Q E s')
    (he : (assignEach [.Name x p1, .Name y p2] env).map (·.2) = [assign (.Name x p1) env, assign (.Name y p2) env] := by rfl)
    (hw : swappedStores [.Name x p1, .Name y p2] e env = pure none := by rfl) :
    Sq w A env (.Assign [.Name x p1, .Name y p2] e pos :: rest) Q E s := by
  refine .mk (wpAny_execs_cons (wpAny_Assign_two (h.use (Ext.refl _) F.tk fun v s₁ r q => ?_) he hw))
  have F1 := F.kp q
  obtain ⟨m, hns, _⟩ := id F1.ns
  refine assign_Name (wpAny_storeName_local hx hns (fun h4 hn4 sb4 => ?_) (by rw [hk]; rfl))
  obtain ⟨F4, t4⟩ := F1.put (RepP.imm hi r) hns hn4 sb4 _ (Nat.le_succ _)
  refine assign_Name (wpAny_storeName_local hy hn4 (fun h5 hn5 sb5 => ?_) (by rw [hk]; rfl))
  obtain ⟨F5, t5⟩ := F4.put (RepP.imm hi r) hn4 hn5 sb5 _ (Nat.le_succ _)
  exact (hq _ F5 (TK.kp_left q (t4.trans t5))).run

/-- kept but for some addresses -/
noncomputable def KM (M : List Addr) (s s' : Shared) : Prop := ∃ h' tk, s' = { s with heap := h', toks := tk } ∧ (∀ b o, b ∉ M → s.heap.get? b = some o → h'.get? b = some o) ∧ (∀ b ∈ M, (s.heap.get? b).isSome = true → (h'.get? b).isSome = true) ∧ s.toks ≤ tk
theorem KM.trans {M : List Addr} {s s' s'' : Shared} (a : KM M s s') (b : KM M s' s'') : KM M s s'' := by
  obtain ⟨h1, t1, rfl, e1, n1, l1⟩ := a
  obtain ⟨h2, t2, rfl, e2, n2, l2⟩ := b
  exact ⟨h2, t2, rfl, fun b o ne e => e2 b o ne (e1 b o ne e), fun b hb e => n2 b hb (n1 b hb e), Nat.le_trans l1 l2⟩
theorem KM.of_kp {M : List Addr} {s s' : Shared} (a : Kp s s') : KM M s s' := by
  obtain ⟨h1, t1, rfl, e1, l1⟩ := a
  refine ⟨h1, t1, rfl, fun b o _ e => e1 b o e, fun b _ e => ?_, l1⟩
  obtain ⟨o, ho⟩ := Option.isSome_iff_exists.mp e
  rw [e1 _ _ ho]; rfl
theorem KM.toks {M : List Addr} {s s' : Shared} (a : KM M s s') : s.toks ≤ s'.toks := by obtain ⟨h1, t1, rfl, e1, n1, l1⟩ := a; exact l1
theorem KM.of_tk {M : List Addr} {L : Addr} {s s' : Shared} (hL : L ∈ M) (a : TK L s s') : KM M s s' := by
  obtain ⟨h1, t1, rfl, e1, ⟨m, n1⟩, l1⟩ := a
  refine ⟨h1, t1, rfl, fun b o hb e => e1 b o (fun x => hb (x ▸ hL)) e, fun b hb e => ?_, l1⟩
  by_cases x : b = L
  · subst x
    obtain ⟨o, es, ep, ho, _⟩ := n1
    rw [ho]; rfl
  · obtain ⟨o, ho⟩ := Option.isSome_iff_exists.mp e
    rw [e1 _ _ x ho]; rfl
end T55

end
section
open PySem PySem.W PyProof.Rows PySem.Calls
namespace T55
set_option maxRecDepth 100000
set_option linter.unusedVariables false
variable {w : World} {A : Around} {env : Env} {h₁ : Heap} {ρ : List (Str × PV)} {s : Shared} {E : Value → Shared → Prop} {Q : Flow → Shared → Prop}

/-- what a for-loop walks over; its own facts hold in a heap without M -/
structure ItM (w : World) (A : Around) (env : Env) (M : List Addr) (s : Shared) (tg iter : Expr) (n : Nat) (D : Nat → PV) : Prop where
  run : ∀ (E : Value → Shared → Prop), wpAny (model PW w) A (eval iter env) (fun x s₁ => wpAny (model PW w) A (pyIter x) (fun it s₂ =>
    (∃ h₀ I fp St, it = .ref I ∧ (∀ b ∈ M, h₀.get? b = none) ∧ (∀ b ∈ M, b ∉ fp) ∧ Ext h₀ s₂.heap ∧ It w A h₀ 1 tg I fp n D St ∧ St 0 s₂.heap ∧ (∀ b ∈ fp, s.heap.get? b = none)) ∧ Kp s s₂) E s₁) E s
theorem sq_for {tg iter : Expr} {body rest : List Stmt} {pos : Pos} {n : Nat} {D : Nat → PV} (M : List Addr) (t : 1 ≤ s.toks) (hM : ∀ b ∈ M, (s.heap.get? b).isSome = true) (hit : ItM w A env M s tg iter n D) (I : Nat → Shared → Prop)
    (stab : ∀ i s' h' tk, I i s' → (∀ b, (b ∈ M ∨ (s.heap.get? b).isSome = true) → ∀ o, s'.heap.get? b = some o → h'.get? b = some o) → s'.toks ≤ tk → I i { s' with heap := h', toks := tk })
    (h0 : ∀ s', Kp s s' → I 0 s')
    (turn : ∀ i s' (E' : Value → Shared → Prop) v, i < n → I i s' → KM M s s' → RepP (fun b => b ∉ M) s'.heap (D i) v →
      wpAny (model PW w) A (assign tg env v) (fun _ s₂ => Sq w A env body (fun f s₃ => (f = .next ∧ I (i + 1) s₃ ∧ KM M s' s₃) ∨ ∃ u, f = .ret u ∧ Q (.ret u) s₃) E' s₂) E' s')
    (hq : ∀ s', I n s' → KM M s s' → Sq w A env rest Q E s') (hs : ∀ x, foldedSetIterable iter env x = pure x := by intro _; rfl) :
    Sq w A env (.For tg iter body [] pos :: rest) Q E s := by
  refine .mk (wpAny_execs_cons (wpAny_For (wpAny_mono (hit.run E) (fun xv s₁ z => wpAny_mono z (fun it s₂ z => ?_) fun _ _ e => e) fun _ _ e => e) hs))
  obtain ⟨⟨h₀, I₀, fp, St, rfl, hM0, hMf, x0, W, st0, hfp⟩, q⟩ := z
  refine codeAny_forLoop_any (fun m s' => ∃ i, i ≤ n ∧ m = n + 1 - i ∧ St i s'.heap ∧ I i s' ∧ KM M s s' ∧ Ext h₀ s'.heap) (fun m s' hI => ?_) (n + 1) ⟨0, Nat.zero_le _, rfl, st0, h0 _ q, KM.of_kp q, x0⟩
  obtain ⟨i, hi, rfl, st, hIi, km, xx⟩ := hI
  obtain ⟨h1, t1, rfl, e1, m1, l1⟩ := km
  -- after a step of the iterator
  have nfs : ∀ b, (s.heap.get? b).isSome = true → b ∉ fp := fun b hb hf => by rw [hfp b hf] at hb; cases hb
  have step : ∀ (h' : Heap) (tk : Nat), (∀ b o, b ∉ fp → h1.get? b = some o → h'.get? b = some o) → t1 ≤ tk →
      I i { s with heap := h', toks := tk } ∧ KM M s { s with heap := h', toks := tk } ∧ Ext h₀ h' := fun h' tk hk le => by
    refine ⟨stab i { s with heap := h1, toks := t1 } h' tk hIi (fun b hb o e => hk b o ?_ e) le, ⟨h', tk, rfl, fun b o hb e => hk b o (nfs b (by rw [e]; rfl)) (e1 b o hb e), fun b hb e => ?_, Nat.le_trans l1 le⟩, fun b o e => hk b o (fun hf => by rw [W.new b hf] at e; cases e) (xx b o e)⟩
    · rcases hb with hb | hb
      · exact hMf b hb
      · exact nfs b hb
    · obtain ⟨o, ho⟩ := Option.isSome_iff_exists.mp (m1 b hb e)
      rw [hk b o (hMf b hb) ho]; rfl
  by_cases hlt : i < n
  · refine wpAny_mono (W.item i _ (fun v s₂' => wpAny (model PW w) A (assign tg env v) (fun _ s₂ => wpAny (model PW w) A (execs body env) (fun f s₃ => match f with
            | .next | .cont => ∃ m, m < n + 1 - i ∧ ∃ i, i ≤ n ∧ m = n + 1 - i ∧ St i s₃.heap ∧ I i s₃ ∧ KM M s s₃ ∧ Ext h₀ s₃.heap
            | .brk => wpAny (model PW w) A (execs rest env) Q E s₃
            | .ret v => Q (.ret v) s₃) (notedBy (model PW w) A env fun e s' => cameBackBy (model PW w) A env E e s') s₂) (notedBy (model PW w) A env fun e s' => cameBackBy (model PW w) A env E e s') s₂') (notedBy (model PW w) A env fun e s' => cameBackBy (model PW w) A env E e s') hlt xx (Nat.le_trans t l1) st fun v h' tk rv st' le hk => ?_) (fun r s₁ z => ?_) fun _ _ e => e
    rotate_left
    · obtain ⟨v, rfl, z⟩ := z
      exact z
    · obtain ⟨i1, i2, i3⟩ := step h' tk hk le
      have rv' : RepP (fun b => b ∉ M) h' (D i) v := rv.imp (fun b hb hm => by
        rcases hb with hb | hb
        · rw [hM0 b hm] at hb; cases hb
        · have := m1 b hm (hM b hm)
          rw [show h1.get? b = none from hb] at this; cases this) fun _ _ _ e => e
      refine wpAny_mono (turn i { s with heap := h', toks := tk } _ v hlt i1 i2 rv') (fun _ s₂ z => wpAny_mono z.run (fun f s₃ z => ?_) fun _ _ e => e) fun _ _ e => e
      rcases z with ⟨rfl, j1, j2⟩ | ⟨u, rfl, j⟩
      · refine ⟨n + 1 - (i + 1), by omega, i + 1, hlt, rfl, ?_, j1, i2.trans j2, ?_⟩
        · obtain ⟨h3, t3, rfl, e3, _, _⟩ := j2
          exact W.frame _ _ _ st' fun b hb o e => e3 b o (fun hm => hMf b hm hb) e
        · obtain ⟨h3, t3, rfl, e3, _, _⟩ := j2
          exact fun b o e => e3 b o (fun hm => by rw [hM0 b hm] at e; cases e) (i3 b o e)
      · exact j
  · have hin : i = n := by omega
    subst hin
    refine W.done _ _ _ xx st fun h' tk le hk => ?_
    obtain ⟨i1, i2, i3⟩ := step h' tk hk le
    exact wpAny_execs_nil (hq _ i1 i2).run
end T55

end
section
open PySem PySem.W PyProof.Rows PySem.Calls
namespace T55
set_option maxRecDepth 100000
set_option linter.unusedVariables false
variable {w : World} {A : Around} {env : Env} {h₁ : Heap} {ρ : List (Str × PV)} {s : Shared} {E : Value → Shared → Prop} {Q : Flow → Shared → Prop}

theorem nth_empty (b : Addr) : ({} : Heap).get? b = none := Heap.get?_none_of_le (Nat.zero_le _)
theorem itm_range {M : List Addr} {iter tg : Expr} {n : Nat} (hh : A.handled = none) (hg : NoGo tg) (hn : n ≤ 1000) (t : 1 ≤ s.toks) (hM : ∀ b ∈ M, (s.heap.get? b).isSome = true)
    (h : ∀ (E : Value → Shared → Prop), wpAny (model PW w) A (eval iter env) (fun v s' => (∃ r t u x, v = .ref r ∧ IsRange s'.heap r 0 n 1 t u x) ∧ Kp s s') E s) : ItM w A env M s tg iter n (fun i => .int i) := .mk fun E =>
  wp_use (h E) fun x s₁ r q => by
    obtain ⟨r, t', u, y, rfl, hr⟩ := r
    have sm := small_up (a := 0) (b := (n : Int)) (by omega) (by omega) (by omega)
    have e := rangeSize_up (a := 0) (b := (n : Int)) (by omega)
    have new : s.heap.get? s₁.heap.objs.size = none := Nw.of q.ext (Heap.get?_none_of_le (Nat.le_refl _))
    refine wpAny_pyIter_range hr sm ⟨⟨{}, s₁.heap.objs.size, [s₁.heap.objs.size], fun i h => IsRangeIter h s₁.heap.objs.size ((0 : Int) + (i : Nat) * 1) ((n : Int) - (i : Nat)) 1, rfl, fun b _ => nth_empty b, fun b hb hf => ?_, fun b o e => (by rw [nth_empty] at e; cases e), ?_, ?_, fun b hb => ?_⟩, q.trans (Kp.push s₁ _)⟩
    · simp at hf; subst hf
      have := hM _ hb
      rw [new] at this; cases this
    · have := it_range (w := w) (A := A) (h₀ := {}) (T := 1) (tg := tg) (I := s₁.heap.objs.size) (a := 0) (c := 1) (n := n) hh hg (nth_empty _)
      simpa using this
    · have : (s₁.heap.push { cls := .type "range_iterator", data := .fields #[rawInt 0, rawInt (Builtin.Range.rangeSize 0 n 1), rawInt 1] }).get? s₁.heap.objs.size = some { cls := .type "range_iterator", data := .fields #[rawInt 0, rawInt (Builtin.Range.rangeSize 0 n 1), rawInt 1] } := Heap.get?_push_size _ rfl
      rw [e] at this ⊢
      simpa [IsRangeIter] using this
    · simp at hb; subst hb; exact new
/-- range(e), a call -/
theorem ev_range {e : Expr} {p pos : Pos} {n : Nat} (G : GE w env h₁) (hx : env.kindOf "range" = some .globalImplicit) (h : EvP w A env h₁ e (.int n)) (hs : ∀ rest, starEach (e :: rest) env = (false, eval e env) :: starEach rest env := by intro _; rfl) :
    ∀ (s : Shared) (E : Value → Shared → Prop), Ext h₁ s.heap → 1 ≤ s.toks →
      wpAny (model PW w) A (eval (.Call (.Name "range" p) [e] [] pos) env) (fun v s' => (∃ r t u x, v = .ref r ∧ IsRange s'.heap r 0 n 1 t u x) ∧ Kp s s') E s := fun s E k t => by
  refine wpAny_Call_NameR ((nm_builtin (A := A) G hx (b_range w.params) (by kernel_rfl)).run s _ _ k ?_)
  refine callWith_of (P := fun h => Ext h₁ h) (by rw [hs]; rfl) (fun h x => keeps_val (fun a => by simp) _ h x) ?_
  have run := (args_cons h args_nil hs).run (pos := pos) s (E := E) k t
  rw [hs] at run ⊢
  refine evalArgs_plain (wp_use run fun us s₁ r' q => ?_)
  obtain ⟨v, us', rfl, ⟨u, rfl⟩, r2⟩ := r'
  simp only [RepL] at r2
  subst r2
  refine ⟨k.trans q.ext, call_range_1 ⟨⟨_, _, _, _, rfl, Heap.get?_push_size _ rfl⟩, q.trans ⟨_, _, rfl, fun b o e => Heap.get?_push_of_some _ e, Nat.le_succ_of_le (Nat.le_succ _)⟩⟩⟩
end T55

end
section
open PySem PySem.W PyProof.Rows PySem.Calls
namespace T55
set_option maxRecDepth 100000
set_option linter.unusedVariables false
variable {w : World} {A : Around} {env : Env} {h₁ : Heap} {ρ : List (Str × PV)} {s : Shared} {E : Value → Shared → Prop} {Q : Flow → Shared → Prop}

/-- a heap without some addresses -/
noncomputable def del (M : List Addr) (h : Heap) : Heap := ⟨h.objs.mapIdx fun i o => if M.contains i then ⟨.none, none, .freed, #[]⟩ else o, h.life⟩
theorem del_mem {M : List Addr} {h : Heap} {b : Addr} (hb : b ∈ M) : (del M h).get? b = none := by
  unfold Heap.get? del
  show (match (h.objs.mapIdx fun i o => if M.contains i then (⟨.none, none, .freed, #[]⟩ : Obj) else o)[b]? with | some ⟨_, _, .freed, _⟩ => none | o => o) = none
  rw [Array.getElem?_mapIdx]
  have : M.contains b = true := by simpa using hb
  cases h.objs[b]? with
  | none => rfl
  | some o => simp only [Option.map_some, this, if_true]
theorem del_not {M : List Addr} {h : Heap} {b : Addr} (hb : b ∉ M) : (del M h).get? b = h.get? b := by
  unfold Heap.get? del
  show (match (h.objs.mapIdx fun i o => if M.contains i then (⟨.none, none, .freed, #[]⟩ : Obj) else o)[b]? with | some ⟨_, _, .freed, _⟩ => none | o => o) = _
  rw [Array.getElem?_mapIdx]
  have : M.contains b = false := by simpa using hb
  cases h.objs[b]? with
  | none => rfl
  | some o =>
    simp only [Option.map_some, this, Bool.false_eq_true, if_false]
    obtain ⟨c, d, dt, sl⟩ := o
    cases dt <;> rfl
theorem del_ext (M : List Addr) (h : Heap) : Ext (del M h) h := fun b o e => by
  by_cases hb : b ∈ M
  · rw [del_mem hb] at e; cases e
  · rwa [del_not hb] at e
theorem itm_list {M : List Addr} {iter tg : Expr} {ds : List PV} (hh : A.handled = none) (hg : NoGo tg) (hM : ∀ b ∈ M, (s.heap.get? b).isSome = true)
    (h : ∀ (E : Value → Shared → Prop), wpAny (model PW w) A (eval iter env) (fun v s' => RepP (fun b => b ∉ M) s'.heap (.list ds) v ∧ Kp s s') E s) : ItM w A env M s tg iter ds.length (nth ds) := .mk fun E =>
  wp_use (h E) fun x s₁ r q => by
    obtain ⟨ax, vs, rfl, ha, hl, hr⟩ := r
    have new : s.heap.get? s₁.heap.objs.size = none := Nw.of q.ext (Heap.get?_none_of_le (Nat.le_refl _))
    have hl' : (del M s₁.heap).IsList ax vs.toArray := hl.isList.at fun o e => by rw [del_not ha]; exact e
    have hr' : RepL (del M s₁.heap) ds vs := (hr.imp (fun _ y => y) fun b o hb e => by rw [del_not hb]; exact e).rep
    refine wpAny_pyIter_list hl.isList ⟨⟨del M s₁.heap, s₁.heap.objs.size, [s₁.heap.objs.size], fun i h => h.IsListIter s₁.heap.objs.size ax i, rfl, fun b hb => del_mem hb, fun b hb hf => ?_, (del_ext M _).trans (Kp.push s₁ _).ext,
      it_list hh hg hl' hr' (Nw.of (del_ext M _) (Heap.get?_none_of_le (Nat.le_refl _))), ⟨_, Heap.get?_push_size _ rfl, rfl, rfl⟩, fun b hb => ?_⟩, q.trans (Kp.push s₁ _)⟩
    · simp at hf; subst hf
      have := hM _ hb
      rw [new] at this; cases this
    · simp at hb; subst hb; exact new
-- identity of small ints
theorem cm_is_int {a b : Int} {T : Nat} (h0 : -5 ≤ a) (h1 : a ≤ 256) : CmP w A h₁ .Is (.lt a T) (.ge b T) (a == b) := fun s E u v k t ra rb => by
  obtain ⟨x, x1, x2, rfl⟩ := ra
  obtain ⟨y, y1, rfl⟩ := rb
  have nx : ((x : Tok) == (0 : Nat)) = false := by rw [beq_eq_false_iff_ne]; exact Nat.ne_of_gt x1
  have ny : ((y : Tok) == (0 : Nat)) = false := by rw [beq_eq_false_iff_ne]; exact Nat.ne_of_gt (Nat.lt_of_lt_of_le x1 (Nat.le_trans (Nat.le_of_lt x2) y1))
  have nxy : ((x : Tok) == (y : Tok)) = false := by rw [beq_eq_false_iff_ne]; exact Nat.ne_of_lt (Nat.lt_of_lt_of_le x2 y1)
  refine wpAny_bind ?_
  show wpAny _ _ (if (a == b && smallInt a) = true then isSame.cachedInt x y else isSame.created (a == b) x y) _ _ _
  by_cases hab : a = b
  · subst hab
    have : smallInt a = true := by unfold smallInt; rw [decide_eq_true h0, decide_eq_true h1]; rfl
    rw [this, beq_self_eq_true, if_pos (by rfl)]
    unfold isSame.cachedInt
    rw [nx, ny]
    exact wpAny_bind (wpAny_rule (wpAny_pure (wpAny_pure ⟨rfl, Kp.refl s⟩)))
  · have e : (a == b) = false := by simpa using hab
    rw [e, if_neg (by simp)]
    unfold isSame.created
    rw [nx, ny, nxy]
    exact wpAny_pure (wpAny_pure ⟨rfl, Kp.refl s⟩)
end T55

end
section
open PySem PySem.W PyProof.Rows PySem.Calls
namespace T55
set_option maxRecDepth 100000
set_option linter.unusedVariables false
variable {w : World} {A : Around} {env : Env} {h₁ : Heap} {ρ : List (Str × PV)} {s : Shared} {E : Value → Shared → Prop} {Q : Flow → Shared → Prop}

theorem Fr.weaken {ρ' : List (Str × PV)} (F : T55.Fr env ρ s) (h : ∀ x d, ρ'.lookup x = some d → ρ.lookup x = some d) : T55.Fr env ρ' s := by
  obtain ⟨m, hn, hm⟩ := F.ns
  exact ⟨⟨m, hn, fun x d hx => hm x d (h x d hx)⟩, F.tk⟩
theorem Fr.stab {h' : Heap} {tk : Nat} (F : T55.Fr env ρ s) (hi : ∀ x d, ρ.lookup x = some d → Imm d) (hL : ∀ o, s.heap.get? env.locals = some o → h'.get? env.locals = some o) (le : s.toks ≤ tk) : T55.Fr env ρ { s with heap := h', toks := tk } := by
  obtain ⟨m, hn, hm⟩ := F.ns
  exact ⟨⟨m, hn.at hL, fun x d hx => by obtain ⟨v, hv, r⟩ := hm x d hx; exact ⟨v, hv, RepP.imm (hi x d hx) r.rep⟩⟩, Nat.le_trans F.tk le⟩
/-- the store of a loop's name -/
theorem as_name {x : Str} {p : Pos} {v : Value} {d : PV} {Q : Unit → Shared → Prop} (F : T55.Fr env ρ s) (r : RepP (fun b => b ≠ env.locals) s.heap d v) (hx : env.kindOf x = some .local) (hk : env.scope.kind = .function)
    (hq : ∀ s', T55.Fr env ((x, d) :: ρ) s' → TK env.locals s s' → Q () s') : wpAny (model PW w) A (assign (.Name x p) env v) Q E s := by
  obtain ⟨m, hns, _⟩ := id F.ns
  refine assign_Name (wpAny_storeName_local hx hns (fun h4 hn4 sb4 => ?_) (by rw [hk]; rfl))
  obtain ⟨F4, t4⟩ := F.put r hns hn4 sb4 _ (Nat.le_succ _)
  exact hq _ F4 t4
theorem op_iadd {a b : Int} : ∀ (s : Shared) (E : Value → Shared → Prop) (u v : Value), 1 ≤ s.toks → Rep s.heap (.int a) u → Rep s.heap (.int b) v → wpAny (model PW w) A (inplaceOp .Add u v) (fun v s' => Rep s'.heap (.int (a + b)) v ∧ Kp s s') E s := fun s E u v t ra rb => by
  obtain ⟨x, rfl⟩ := ra; obtain ⟨y, rfl⟩ := rb
  exact PySem.P.iadd_int ⟨⟨s.toks, rfl⟩, Kp.tok s 1⟩
theorem cm_eq_lt_ge {a b : Int} {T : Nat} : CmP w A h₁ .Eq (.lt a T) (.ge b T) (a == b) := fun s E u v k t ra rb => by
  obtain ⟨x, _, _, rfl⟩ := ra
  obtain ⟨y, _, rfl⟩ := rb
  exact eq_int ⟨rfl, Kp.refl s⟩
end T55

end
section
open PySem PySem.W PyProof.Rows PySem.Calls
namespace T55
set_option maxRecDepth 100000
set_option linter.unusedVariables false
variable {w : World} {A : Around} {env : Env} {h₁ : Heap}

noncomputable def cntI (l : List Int) (n : Int) : Int := (l.countP (· == n) : Nat)
theorem cntI_step (l : List Int) (n : Int) (i : Nat) (h : i < l.length) : cntI (l.take (i + 1)) n = cntI (l.take i) n + (if l.getD i 0 == n then 1 else 0) := by
  unfold cntI
  rw [List.take_succ_eq_append_getElem h, List.countP_append]
  simp [List.getD_eq_getElem?_getD, h]
  split <;> simp_all
theorem KM.tk {L : Addr} {s s' : Shared} (a : KM [L] s s') (n : ∃ m, s'.heap.Ns L m) : TK L s s' := by
  obtain ⟨h1, t1, rfl, e1, _, l1⟩ := a
  exact ⟨h1, t1, rfl, fun b o hb e => e1 b o (by simpa using hb) e, n, l1⟩
noncomputable def ltL (l : List Int) (T : Nat) : List PV := l.map (.lt · T)
theorem cl_count {l : List Int} {n : Int} {T : Nat} (hl : l.length ≤ 1000) (hs : ∀ x ∈ l, -5 ≤ x ∧ x ≤ 256) (hh : A.handled = none) (X : Ext (HZ w.params) h₁) (O : Ok A 1) : ClP w A h₁ (.ref 56) [.list (ltL l T), .ge n T] (.int (cntI l n)) := by
  refine cl_def (fn_count w.params) X O (body := bodyOf 12) (names := ["a", "b"]) (by kernel_rfl) (by decide) rfl (fun vs h => by obtain ⟨u, v, rfl⟩ := vlen2 h; kernel_rfl) (by kernel_rfl) (by kernel_rfl) (by kernel_rfl) (by kernel_rfl) (by kernel_rfl) fun L A' s' E' O' X' hL F => ?_
  conv in (bodyOf 12) => whnf
  have kF : (callEnv (fdOf (oC56 w.params)) L 56).scope.kind = .function := by kernel_rfl
  have kcount : (callEnv (fdOf (oC56 w.params)) L 56).kindOf "count" = some .local := by kernel_rfl
  have ka : (callEnv (fdOf (oC56 w.params)) L 56).kindOf "a" = some .local := by kernel_rfl
  have kb : (callEnv (fdOf (oC56 w.params)) L 56).kindOf "b" = some .local := by kernel_rfl
  have ki : (callEnv (fdOf (oC56 w.params)) L 56).kindOf "i" = some .local := by kernel_rfl
  generalize hE : callEnv (fdOf (oC56 w.params)) L 56 = env at *
  have eL : env.locals = L := by rw [← hE]; rfl
  refine sq_assign F (EvP.imm ev_int trivial) kcount kF (fun s1 F1 k1 => ?_)
  have ml : (ltL l T).length = l.length := by simp [ltL]
  obtain ⟨m1, hn1, hm1⟩ := id F1.ns
  obtain ⟨va, hva, rva⟩ := hm1 "a" (.list (ltL l T)) (by rfl)
  have aL : ∀ b ∈ [env.locals], (s1.heap.get? b).isSome = true := by
    intro b hb
    simp at hb; subst hb
    obtain ⟨o, es, ep, ho, _⟩ := hn1
    rw [ho]; rfl
  refine sq_for [env.locals] F1.tk aL (itm_list (ds := ltL l T) O'.handled noGo_name aL fun E => ?_) (fun i s => T55.Fr env [("count", .int (cntI (l.take i) n)), ("b", .ge n T)] s) ?_ ?_ ?_ ?_
  · refine wpAny_Name (wpAny_loadName_local kF ka hn1 hva ⟨rva.imp (fun b hb hm => hb (by simpa using hm)) fun _ _ _ e => e, Kp.refl s1⟩) (by kernel_rfl)
  · intro i s2 h' tk Fi hk le
    refine Fi.stab (fun x d hx => ?_) (fun o e => hk _ (.inl (by simp)) o e) le
    simp only [List.lookup_cons] at hx
    split at hx
    · cases hx; trivial
    · split at hx
      · cases hx; trivial
      · cases hx
  · intro s2 k2
    refine (F1.kp k2).weaken fun x d hx => ?_
    have e0 : cntI (l.take 0) n = 0 := by simp [cntI]
    rw [e0] at hx
    simp only [List.lookup_cons] at hx
    split at hx
    · rename_i hc
      simp only [List.lookup_cons, hc]
      exact hx
    · rename_i hc
      split at hx
      · rename_i hb
        have : x = "b" := by simpa using hb
        subst this
        exact hx
      · cases hx
  · intro i s2 E2 v hi Fi km rv
    rw [ml] at hi
    have eD : nth (ltL l T) i = .lt (l.getD i 0) T := by simp [nth, ltL, List.getD_eq_getElem?_getD, hi]
    rw [eD] at rv
    have hx := hs (l.getD i 0) (by
      have : l.getD i 0 = l[i] := by simp [List.getD_eq_getElem?_getD, hi]
      rw [this]; exact List.getElem_mem hi)
    refine as_name Fi (rv.imp (fun b hb e => hb (by simpa using e)) fun _ _ _ e => e) ki kF fun s3 F3 t3 => ?_
    have ei : ∀ {p : Pos}, EvP w A' env s3.heap (.Name "i" p) (.lt (l.getD i 0) T) := F3.ev (by rfl) kF ki (by kernel_rfl)
    have eb : ∀ {p : Pos}, EvP w A' env s3.heap (.Name "b" p) (.ge n T) := F3.ev (by rfl) kF kb (by kernel_rfl)
    have kml : ∀ {a b : Shared}, TK env.locals a b → KM [env.locals] a b := fun t => KM.of_tk (by simp) t
    have hsame : ((l.getD i 0 == n) || (l.getD i 0 == n)) = (l.getD i 0 == n) := Bool.or_self _
    refine sq_if (b := (l.getD i 0 == n) || (l.getD i 0 == n)) (ts_or (ts_cmp ei eb (cm_is_int hx.1 hx.2)) (fun _ => ts_cmp ei eb cm_eq_lt_ge)) F3.tk (fun h s4 k4 => ?_) (fun h s4 k4 => ?_)
    · rw [hsame] at h
      refine sq_aug (F3.kp k4) (by rfl) ev_int op_iadd trivial kcount kF fun s5 F5 t5 => ?_
      refine sq_nil (sq_nil (.inl ⟨rfl, F5.weaken fun x d hx => ?_, (kml t3).trans ((KM.of_kp k4).trans (kml t5))⟩))
      rw [cntI_step l n i hi, if_pos h] at hx
      simp only [List.lookup_cons] at hx ⊢
      split at hx
      · rename_i hc
        have : x = "count" := by simpa using hc
        subst this
        exact hx
      · split at hx
        · rename_i hb
          have : x = "b" := by simpa using hb
          subst this
          exact hx
        · cases hx
    · rw [hsame] at h
      refine sq_nil (sq_nil (.inl ⟨rfl, (F3.kp k4).weaken fun x d hx => ?_, (kml t3).trans (KM.of_kp k4)⟩))
      rw [cntI_step l n i hi, if_neg (by rw [h]; exact Bool.false_ne_true), Int.add_zero] at hx
      simp only [List.lookup_cons] at hx ⊢
      split at hx
      · rename_i hc
        have : x = "count" := by simpa using hc
        subst this
        exact hx
      · split at hx
        · rename_i hb
          have : x = "b" := by simpa using hb
          subst this
          exact hx
        · cases hx
  · intro s2 Fn km
    have en : cntI (l.take (ltL l T).length) n = cntI l n := by rw [ml, List.take_length]
    rw [en] at Fn
    refine sq_ret (Fn.ev (by rfl) kF kcount (by kernel_rfl)) Fn.tk fun v s3 r q => ⟨v, rfl, r, ?_⟩
    have t1 : TK env.locals s' s1 := k1
    have t2 : TK env.locals s1 s2 := km.tk (by obtain ⟨m, a, _⟩ := Fn.ns; exact ⟨m, a⟩)
    rw [← eL]
    exact (t1.trans t2).trans (Fn.tk' q)
end T55

end
section
open PySem PySem.W PyProof.Rows PySem.Calls
namespace T55
set_option maxRecDepth 100000
set_option linter.unusedVariables false
variable {w : World} {A : Around} {env : Env} {h₁ : Heap} {ρ : List (Str × PV)} {s : Shared} {E : Value → Shared → Prop} {Q : Flow → Shared → Prop}

theorem isL {h : Heap} {r : Addr} {its : Array Value} (p : h.PlainList r its) : h.IsList r its := by
  obtain ⟨n, e⟩ := p
  exact ⟨_, e, rfl, n, rfl⟩
theorem set_itemG {prog : Program} {r : Addr} {items : Array Value} {k : Int} {t : Tok} {v : Value} {E : Value → Shared → Prop} {Q : Unit → Shared → Prop} (hp : s.heap.PlainList r items) (h0 : 0 ≤ k) (hfit : k < 2 ^ 63) (hn : k < items.size)
    (hQ : ∀ h', h'.PlainList r (items.setIfInBounds k.toNat v) → Heap.SameBut r s.heap h' → Q () { s with heap := h' }) :
    wpAny (model prog w) A (setItem (.ref r) (.int k t) v) Q E s := by
  have hl := isL hp
  obtain ⟨ne, ho⟩ := hp
  have hd : ({ cls := .type "list", data := .seq items ne } : Obj).data = .seq items ne := rfl
  unfold setItem
  try with_reducible refine wpAny_holding ?_
  first | refine wpAny_bind (wpAny_pure ?_) | skip
  refine wpAny_bind (wpAny_sequenceKey hl.typeIs (by decide) ?_)
  refine wpAny_bind (wpAny_callSpecial?_slot (name := Str.ofString "__setitem__") hl.typeIs slot_list_setitem
    (wpAny_call_entry slot_list_setitem hl.typeIs entry_list_setitem ?_ (args_list_setitem _ _ _)))
  show wpAny _ _ (Builtin.List.listSubscript? (.int k t) >>= _) _ _ s
  refine wpAny_bind (wpAny_listSubscript_int (fitsIndex_of h0 hfit) ?_)
  clear hfit
  obtain ⟨j, rfl⟩ := Int.eq_ofNat_of_zero_le h0
  have hj : j < items.size := by omega
  have hx' : items[j]? = some items[j] := Array.getElem?_eq_getElem hj
  show wpAny _ _ ((seqItemAt r j >>= fun r => pure (r.map (j, ·))) >>= _) _ _ s
  refine wpAny_bind (wpAny_bind (wpAny_seqItemAt ho hd (wpAny_pure ?_)))
  rw [hx']
  show wpAny _ _ (setSeqItemAt r j v >>= _) _ _ s
  have hfin : (s.heap.update r (Obj.mapSeq (·.setIfInBounds j v))).PlainList r (items.setIfInBounds j v) :=
    ⟨_, Heap.get?_update_self _ ho rfl⟩
  refine wpAny_bind (wpAny_setSeqItemAt ho hd ?_)
  first
    | exact wpAny_bind (wpAny_pure (wpAny_pure ⟨.none, rfl, wpAny_pure (hQ _ hfin (Heap.SameBut.update ..))⟩))
    | exact wpAny_pure ⟨.none, rfl, wpAny_pure (hQ _ hfin (Heap.SameBut.update ..))⟩
theorem set_item {r : Addr} {its : Array Value} {j : Nat} {t : Tok} {v : Value} {E : Value → Shared → Prop} {Q : Unit → Shared → Prop} (hp : s.heap.PlainList r its) (hj : j < its.size) (hfit : (j : Int) < 2 ^ 63)
    (hQ : ∀ h', h'.PlainList r (its.setIfInBounds j v) → Heap.SameBut r s.heap h' → Q () { s with heap := h' }) :
    wpAny (model PW w) A (setItem (.ref r) (.int (j : Int) t) v) Q E s := set_itemG hp (Int.natCast_nonneg _) hfit (by omega) hQ
end T55

end
section
open PySem PySem.W PyProof.Rows PySem.Calls
namespace T55
set_option maxRecDepth 100000
set_option linter.unusedVariables false
variable {w : World} {A : Around} {env : Env} {h₁ : Heap} {ρ : List (Str × PV)} {s : Shared} {E : Value → Shared → Prop} {Q : Flow → Shared → Prop}

/-- the list object r holds these data, none of which lies in the heap -/
structure LstO (r : Addr) (ds : List PV) (s : Shared) : Prop where
  im : ImmL ds
  pl : ∃ vs : List Value, s.heap.PlainList r vs.toArray ∧ RepL s.heap ds vs
theorem RepL.immAny {h h' : Heap} {ds : List PV} {vs : List Value} (i : ImmL ds) (r : RepL h ds vs) : RepL h' ds vs := (RepPL.imm (k := fun _ => True) (h' := h') i r).rep
theorem LstO.get {r : Addr} {ds : List PV} {s' : Shared} (R : LstO r ds s) (k : ∀ o, s.heap.get? r = some o → s'.heap.get? r = some o) : LstO r ds s' := by
  obtain ⟨vs, ⟨n, hv⟩, hr⟩ := R.pl
  exact ⟨R.im, vs, ⟨n, k _ hv⟩, RepL.immAny R.im hr⟩
theorem LstO.kp {r : Addr} {ds : List PV} {s' : Shared} (R : LstO r ds s) (k : Kp s s') : LstO r ds s' := R.get fun o e => k.ext _ _ e
theorem LstO.tk {r L : Addr} {ds : List PV} {s' : Shared} (R : LstO r ds s) (ne : r ≠ L) (k : TK L s s') : LstO r ds s' := R.get fun o e => k.get ne e
theorem LstO.ev {e : Expr} {r : Addr} {ds : List PV} (R : LstO r ds s) (h : EvP w A env s.heap e (.adr r)) : EvP w A env s.heap e (.list ds) := .mk fun s' E k t => h.use k t fun v s'' rv q => ⟨by
  simp only [Rep] at rv
  subst rv
  obtain ⟨vs, ⟨n, hv⟩, hr⟩ := R.pl
  exact ⟨r, vs, rfl, ⟨n, q.ext _ _ (k _ _ hv)⟩, RepL.immAny R.im hr⟩, q⟩
theorem RepL.set {h h' : Heap} : ∀ {l : List PV} {vs : List Value} {j : Nat} {v : Value} {d : PV}, ImmL l → RepL h l vs → Rep h' d v → RepL h' (l.set j d) (vs.set j v)
  | [], _, j, v, d, i, r, _ => by simp only [RepL] at r; subst r; simp [RepL]
  | a :: l, _, 0, v, d, i, r, rv => by
    simp only [RepL] at r
    obtain ⟨u, z, rfl, h1, h2⟩ := r
    simp only [List.set_cons_zero, RepL]
    exact ⟨v, z, rfl, rv, RepL.immAny (fun d hd => i d (List.mem_cons_of_mem _ hd)) h2⟩
  | a :: l, _, j + 1, v, d, i, r, rv => by
    simp only [RepL] at r
    obtain ⟨u, z, rfl, h1, h2⟩ := r
    simp only [List.set_cons_succ, RepL]
    exact ⟨u, _, rfl, (RepP.imm (k := fun _ => True) (h' := h') (i a List.mem_cons_self) h1).rep, RepL.set (fun d hd => i d (List.mem_cons_of_mem _ hd)) h2 rv⟩
theorem ImmL.set {l : List PV} {j : Nat} {d : PV} (i : ImmL l) (hd : Imm d) : ImmL (l.set j d) := fun x hx => by
  rcases List.mem_or_eq_of_mem_set hx with h | h
  · exact i x h
  · exact h ▸ hd
theorem KM.get {M : List Addr} {s s' : Shared} (k : KM M s s') {b : Addr} {o : Obj} (ne : b ∉ M) (e : s.heap.get? b = some o) : s'.heap.get? b = some o := by
  obtain ⟨h1, t1, rfl, e1, n1, l1⟩ := k
  exact e1 _ _ ne e
/-- row[index] = e -/
theorem sq_set {x : Str} {r : Addr} {ds : List PV} {i e : Expr} {pos' p pos : Pos} {rest : List Stmt} {k : Nat} {d : PV} (F : T55.Fr env ρ s) (hi : ∀ x d, ρ.lookup x = some d → Imm d) (R : LstO r ds s) (hx : ρ.lookup x = some (.adr r)) (ne : r ≠ env.locals)
    (hk : k < ds.length) (hfit : (k : Int) < 2 ^ 63) (he : EvP w A env s.heap e d) (hd' : Imm d) (hie : EvP w A env s.heap i (.int (k : Int)))
    (hkf : env.scope.kind = .function) (hl : env.kindOf x = some .local) (hd : (x == ("__debug__" : Str)) = false)
    (hq : ∀ s', T55.Fr env ρ s' → LstO r (ds.set k d) s' → KM [r] s s' → Sq w A env rest Q E s')
    (hs : swapsWith e (some (.Subscript (.Name x p) i pos')) pos.line env = pure false := by rfl) :
    Sq w A env (.Assign [.Subscript (.Name x p) i pos'] e pos :: rest) Q E s := by
  refine .mk (wpAny_execs_cons (wpAny_Assign_Subscript (he.use (Ext.refl _) F.tk fun v s₁ rv k1 => ?_) hs))
  have F1 := F.kp k1
  have R1 := R.kp k1
  obtain ⟨m, hn, hm⟩ := F1.ns
  obtain ⟨va, hva, rva⟩ := hm x _ hx
  simp only [RepP] at rva
  subst rva
  refine wpAny_Name (wpAny_loadName_local hkf hl hn hva ?_) hd
  refine hie.use k1.ext F1.tk fun iv s₂ ri k2 => ?_
  obtain ⟨t, rfl⟩ := ri
  have F2 := F1.kp k2
  have R2 := R1.kp k2
  obtain ⟨vs, hv, hrl⟩ := R2.pl
  have len := hrl.length
  refine set_item hv (by simpa [len] using hk) hfit fun h' hp' sb => ?_
  have kk := k1.trans k2
  have hL : ∀ o, s₂.heap.get? env.locals = some o → h'.get? env.locals = some o := fun o e => by rw [sb.2 _ (Ne.symm ne)]; exact e
  refine (hq { s₂ with heap := h' } (F2.stab hi hL (Nat.le_refl _)) ⟨R.im.set hd', vs.set k v, ?_, RepL.set R.im hrl (RepP.imm (k := fun _ => True) hd' rv).rep⟩ ?_).run
  · simpa using hp'
  · refine (KM.of_kp kk).trans ⟨h', s₂.toks, rfl, fun b o hb e => ?_, fun b hb e => ?_, Nat.le_refl _⟩
    · rw [sb.2 b (by simpa using hb)]; exact e
    · simp only [List.mem_singleton] at hb
      subst hb
      obtain ⟨n, e'⟩ := hp'
      rw [e']; rfl
/-- x = a new list of immediate data -/
theorem sq_new {x : Str} {p pos : Pos} {e : Expr} {rest : List Stmt} {ds : List PV} (F : T55.Fr env ρ s) (hi : ImmL ds) (h : EvF w A env s.heap e (.list ds)) (hl : env.kindOf x = some .local) (hk : env.scope.kind = .function)
    (hq : ∀ s' r, s.heap.get? r = none → r ≠ env.locals → T55.Fr env ((x, .adr r) :: ρ) s' → LstO r ds s' → TK env.locals s s' → Sq w A env rest Q E s')
    (hs : swapsWith e (some (.Name x p)) pos.line env = pure false := by rfl) :
    Sq w A env (.Assign [.Name x p] e pos :: rest) Q E s := by
  refine .mk (wpAny_execs_cons (wpAny_Assign_Name (wp_use (h.run s E (Ext.refl _) F.tk) fun v s' r q => ?_) hs))
  have F1 := F.kp q
  obtain ⟨m, hns, _⟩ := id F1.ns
  obtain ⟨a, vs, rfl, na, ⟨n, pl⟩, rl⟩ := id r
  have ne : a ≠ env.locals := F.nL a na
  refine wpAny_storeName_local hl hns (fun h' hn sb => ?_) (by rw [hk]; rfl)
  obtain ⟨F2, t2⟩ := F1.put (d := .adr a) (v := .ref a) (by simp [RepP]) hns hn sb _ (Nat.le_succ _)
  exact (hq _ a na ne F2 ⟨hi, vs, ⟨n, sb.extBut _ _ ne pl⟩, RepL.immAny hi rl.rep⟩ (TK.kp_left q t2)).run
end T55

end
section
open PySem PySem.W PyProof.Rows PySem.Calls
namespace T55
set_option maxRecDepth 100000
set_option linter.unusedVariables false
variable {w : World} {A : Around} {env : Env} {h₁ : Heap} {ρ : List (Str × PV)} {s : Shared} {E : Value → Shared → Prop} {Q : Flow → Shared → Prop}

theorem ev_range3 {e1 e2 e3 : Expr} {p pos : Pos} {a b c : Int} (G : GE w env h₁) (hx : env.kindOf "range" = some .globalImplicit) (h1 : EvP w A env h₁ e1 (.int a)) (h2 : EvP w A env h₁ e2 (.int b)) (h3 : EvP w A env h₁ e3 (.int c)) (hc : c ≠ 0)
    (hp : Builtin.divisionGoesByPylong (b - a) c = false)
    (hs1 : ∀ rest, starEach (e1 :: rest) env = (false, eval e1 env) :: starEach rest env := by intro _; rfl) (hs2 : ∀ rest, starEach (e2 :: rest) env = (false, eval e2 env) :: starEach rest env := by intro _; rfl) (hs3 : ∀ rest, starEach (e3 :: rest) env = (false, eval e3 env) :: starEach rest env := by intro _; rfl) :
    ∀ (s : Shared) (E : Value → Shared → Prop), Ext h₁ s.heap → 1 ≤ s.toks →
      wpAny (model PW w) A (eval (.Call (.Name "range" p) [e1, e2, e3] [] pos) env) (fun v s' => (∃ r t u x, v = .ref r ∧ IsRange s'.heap r a b c t u x) ∧ Kp s s') E s := fun s E k t => by
  refine wpAny_Call_NameR ((nm_builtin (A := A) G hx (b_range w.params) (by kernel_rfl)).run s _ _ k ?_)
  have ha := args_cons h1 (args_cons h2 (args_cons h3 args_nil hs3) hs2) hs1
  refine callWith_of (P := fun h => Ext h₁ h) (by rw [backTo_plain ha]; rfl) (fun h x => keeps_val (fun a => by simp) _ h x) ?_
  have run := ha.run (pos := pos) s (E := E) k t
  rw [hs1] at run ⊢
  refine evalArgs_plain (wp_use run fun us s₁ r' q => ?_)
  obtain ⟨v1, us1, rfl, ⟨u1, rfl⟩, r2⟩ := r'
  simp only [RepL] at r2
  obtain ⟨v2, us2, rfl, ⟨u2, rfl⟩, r3⟩ := r2
  obtain ⟨v3, us3, rfl, ⟨u3, rfl⟩, rfl⟩ := r3
  refine ⟨k.trans q.ext, call_range_3 hc ⟨⟨_, _, _, _, rfl, Heap.get?_push_size _ rfl⟩, q.trans (Kp.push _ _)⟩ (Or.inl hp)⟩
end T55

end
section
open PySem PySem.W PyProof.Rows PySem.Calls
namespace T55
set_option maxRecDepth 100000
set_option linter.unusedVariables false
section
variable {prog : Program} {w : World} {A : Around} {E : Value → Shared → Prop} {s : Shared}
theorem extend_rangeT {R : Result → Shared → Prop} {r : Addr} {a b c : Int} {t u v : Tok} {n : Nat} (hh : A.handled = none) (hr : IsRange s.heap r a b c t u v) (hsmall : Builtin.Range.small a b c = true)
    (hn : Builtin.Range.rangeSize a b c = n) (hlen : n ≤ 2 ^ 24) (S : Addr) (res : Value) (c₀ : Nat) (hS : s.heap.get? S = some { cls := .type "list", data := .seq #[] c₀ })
    (hR : ∀ h' tk acc' c', s.toks ≤ tk → (∀ b o, b ≠ S → s.heap.get? b = some o → h'.get? b = some o) → h'.get? S = some { cls := .type "list", dict := none, data := .seq acc' c', slots := #[] } →
      ItemsOf (fun i v => ∃ t, v = .int (a + i * c) t) acc' n → R (.ok (.ret res)) { s with heap := h', toks := tk }) :
    wpAny (model prog w) A.in1 (Builtin.List.listExtendWith (.ref S) (.ref r) res)
      (fun fin s' => match fin with | .done f => R (.ok f) s' | .again c' => c'.quiet = true ∧ codeAny (model prog w) A c' R s') (fun e s' => R (.error e) s') s := by
  have hSr : S ≠ r := fun e => by rw [e, hr] at hS; simp at hS
  have hSlt : S < s.heap.objs.size := Heap.lt_size hS
  have hSI : S ≠ s.heap.objs.size := Nat.ne_of_lt hSlt
  have hSf : S ∉ [s.heap.objs.size] := fun hm => hSI (List.mem_singleton.mp hm)
  have W := (Walks.range (prog := prog) (w := w) (A := A.in1) hh s.heap.objs.size a c n).toS

  have key : ∀ (h : Heap) (c₁ tk : Nat), IsRangeIter h s.heap.objs.size (a + ((0 : Nat) : Int) * c) ((n : Int) - ((0 : Nat) : Int)) c → s.toks ≤ tk → (∀ b o, b ≠ S → s.heap.get? b = some o → h.get? b = some o) →
      h.get? S = some { cls := .type "list", data := .seq #[] c₁ } → codeAny (model prog w) A (.builtin "list.extend.loop" ⟨[.ref S, .ref s.heap.objs.size, res], []⟩) R { s with heap := h, toks := tk } := by
    intro h c₁ tk hit hle hk hS₁
    refine codeAny_extend_loopS W (by rw [sizeLine_eq]; omega) S hSf res n 0 _ #[] c₁ rfl (Nat.zero_le _) hit hS₁ (ItemsOf.nil _) fun s' acc' c' hm hS' hacc => ?_
    rw [Moved.eq_with hm]
    refine hR s'.heap s'.toks acc' c' (Nat.le_trans hle hm.toks) (fun b o hb e => hm.heap b o (fun hmem => ?_) (hk b o hb e)) hS' hacc
    rcases List.mem_cons.mp hmem with e' | hmem
    · exact hb e'
    · exact absurd (Heap.lt_size e) (by rw [List.mem_singleton.mp hmem]; exact Nat.lt_irrefl _)
  unfold Builtin.List.listExtendWith
  refine wpAny_bind (wpAny_typeOf (T := "range") ⟨_, hr, rfl⟩ ?_)
  have h1 : Builtin.List.listSameRef (.ref S) (.ref r) = false := by simp [Builtin.List.listSameRef, hSr]
  have h2 : (Value.type "range" == Value.type "list") = false := by decide
  have h3 : (Value.type "range" == Value.type "tuple") = false := by decide
  simp only [h1, h2, h3, Bool.or_false, Bool.false_eq_true, if_false]
  refine wpAny_bind (wpAny_pyIter_range hr hsmall ?_)
  refine wpAny_bind (wpAny_holding (wpAny_hint_range (n := n) (Heap.get?_push_of_some _ hr) hn hlen ?_))
  have hit₁ : IsRangeIter (s.heap.push { cls := .type "range_iterator", data := .fields #[rawInt a, rawInt (Builtin.Range.rangeSize a b c), rawInt c] }) s.heap.objs.size (a + ((0 : Nat) : Int) * c) ((n : Int) - ((0 : Nat) : Int)) c := by
    show IsRangeIter _ _ _ _ _; rw [hn]; simpa using Heap.get?_push_size _ rfl
  have hS₁ := Heap.get?_push_of_some { cls := .type "range_iterator", data := .fields #[rawInt a, rawInt (Builtin.Range.rangeSize a b c), rawInt c] } hS
  refine wpAny_ite_split (fun _ => ?_) (fun _ => wpAny_pure ⟨plainId_quiet F.plain_extend_loop _, key _ c₀ _ hit₁ (by first | exact Nat.le_refl _ | exact Nat.le_succ_of_le (Nat.le_succ _)) (fun b o _ e => Heap.get?_push_of_some _ e) hS₁⟩)
  refine wpAny_bind (wpAny_rule ?_)
  refine wpAny_bind ?_
  show wpAny _ _ (updateSeq S (·.push .none) >>= fun _ => updateSeq S (·.pop)) _ _ _
  refine wpAny_bind (wpAny_updateSeq hS₁ rfl ?_)
  have hS₂ := Heap.get?_update_self (Obj.mapSeq (·.push Value.none)) hS₁ rfl
  refine wpAny_updateSeq (hz := by seq_fits) hS₂ rfl ?_
  have hS₃ := Heap.get?_update_self (Obj.mapSeq (·.pop)) hS₂ rfl
  refine wpAny_pure ⟨plainId_quiet F.plain_extend_loop _, key _ _ _ ?_ (by first | exact Nat.le_refl _ | exact Nat.le_succ_of_le (Nat.le_succ _)) (fun b o hb e => ?_) hS₃⟩
  · exact (Heap.get?_update_other _ _ hSI).trans ((Heap.get?_update_other _ _ hSI).trans hit₁)
  · exact (Heap.get?_update_other _ _ (Ne.symm hb)).trans ((Heap.get?_update_other _ _ (Ne.symm hb)).trans (Heap.get?_push_of_some _ e))

theorem list_init_rangeT {R : Result → Shared → Prop} {r : Addr} {a b c : Int} {t u v : Tok} {n : Nat} (hh : A.handled = none) (hr : IsRange s.heap r a b c t u v) (hsmall : Builtin.Range.small a b c = true)
    (hn : Builtin.Range.rangeSize a b c = n) (hlen : n ≤ 2 ^ 24) (S : Addr) (hS : s.heap.get? S = some { cls := .type "list", data := .seq #[] })
    (hR : ∀ h' tk acc' c', s.toks ≤ tk → (∀ b o, b ≠ S → s.heap.get? b = some o → h'.get? b = some o) → h'.get? S = some { cls := .type "list", dict := none, data := .seq acc' c', slots := #[] } →
      ItemsOf (fun i v => ∃ t, v = .int (a + i * c) t) acc' n → R (.ok (.ret .none)) { s with heap := h', toks := tk }) :
    wpAny (model prog w) A.in1 (Builtin.«list.__init__» ⟨[.ref S, .ref r], []⟩)
      (fun fin s' => match fin with | .done f => R (.ok f) s' | .again c' => c'.quiet = true ∧ codeAny (model prog w) A c' R s') (fun e s' => R (.error e) s') s := by
  have hSr : S ≠ r := fun e => by rw [e, hr] at hS; simp at hS
  show wpAny _ _ (do let old ← Builtin.List.listItems (.ref S); Builtin.List.listUpdate (.ref S) (fun _ => #[]); letGo old.toList.reverse; Builtin.List.listExtendWith (.ref S) (.ref r) .none) _ _ s
  refine wpAny_bind ?_
  unfold Builtin.List.listItems
  refine wpAny_bind (wpAny_seqItems hS rfl (wpAny_pure ?_))
  show wpAny _ _ (updateSeq S (fun _ => #[]) >>= fun _ => letGo (#[] : Array Value).toList.reverse >>= fun _ => Builtin.List.listExtendWith (.ref S) (.ref r) .none) _ _ s
  refine wpAny_bind (wpAny_updateSeq hS rfl ?_)
  have hS₂ := Heap.get?_update_self (Obj.mapSeq (fun _ => (#[] : Array Value))) hS rfl
  have oth : ∀ b o, b ≠ S → s.heap.get? b = some o → (s.heap.update S (Obj.mapSeq (fun _ => (#[] : Array Value)))).get? b = some o :=
    fun b o hb e => (Heap.get?_update_other _ _ (Ne.symm hb)).trans e
  refine wpAny_bind (wpAny_letGo ?_)
  refine extend_rangeT hh (oth r _ (Ne.symm hSr) hr) hsmall hn hlen S .none _ hS₂ fun h' tk acc' c' le hk hS' hacc => ?_
  exact hR h' tk acc' c' le (fun b o hb e => hk b o hb (oth b o hb e)) hS' hacc
end

section
variable {prog : Program} {w : World} {A : Around} {E : Value → Shared → Prop} {s : Shared}

theorem call_list_rangeT {Q : Value → Shared → Prop} {r : Addr} {a b c : Int} {t u v : Tok} {n : Nat} (hh : A.handled = none) (hr : IsRange s.heap r a b c t u v) (hsmall : Builtin.Range.small a b c = true)
    (hn : Builtin.Range.rangeSize a b c = n) (hlen : n ≤ 2 ^ 24)
    (hQ : ∀ h' tk acc' c', s.toks ≤ tk → (∀ b o, s.heap.get? b = some o → h'.get? b = some o) →
      h'.get? s.heap.objs.size = some { cls := .type "list", dict := none, data := .seq acc' c', slots := #[] } → ItemsOf (fun i v => ∃ t, v = .int (a + i * c) t) acc' n → Q (.ref s.heap.objs.size) { s with heap := h', toks := tk }) :
    wpAny (model prog w) A (call (.type "list") [.ref r]) Q E s := by
  refine callType_codes (Q₁ := fun obj s₁ => obj = .ref s.heap.objs.size ∧ s₁ = { s with heap := s.heap.push { cls := .type "list", data := .seq #[] } }) F.called_list (F.typeCall_list_1 _) F.entry_list_init
    (code_list_new _ ⟨rfl, rfl⟩) fun obj s₁ h₁ => ?_
  obtain ⟨rfl, rfl⟩ := h₁
  have hS : (s.heap.push { cls := .type "list", data := .seq #[] }).get? s.heap.objs.size = some { cls := .type "list", data := .seq #[] } := Heap.get?_push_size _ rfl
  refine ⟨⟨_, hS, rfl⟩, F.args_list_init_2 _ _, list_init_rangeT (A := A.in1) hh (Heap.get?_push_of_some _ hr) hsmall hn hlen _ hS fun h' tk acc' c' le hk hS' hacc => ?_⟩
  exact ⟨rfl, hQ h' tk acc' c' le (fun b o e => hk b o (Nat.ne_of_lt (Heap.lt_size e)) (Heap.get?_push_of_some _ e)) hS' hacc⟩
end
end T55

end
section
open PySem PySem.W PyProof.Rows PySem.Calls
namespace T55
set_option maxRecDepth 100000
set_option linter.unusedVariables false
variable {w : World} {A : Around} {env : Env} {h₁ : Heap} {ρ : List (Str × PV)} {s : Shared} {E : Value → Shared → Prop} {Q : Flow → Shared → Prop}

theorem immL_ints (l : List Int) : ImmL (l.map PV.int) := fun d hd => by
  obtain ⟨a, _, rfl⟩ := List.mem_map.mp hd
  simp [Imm]
theorem two_size (n : Nat) : Builtin.Range.rangeSize 2 (2 * ((n : Int) + 1)) 2 = n := by
  unfold Builtin.Range.rangeSize
  simp only [show (2 : Int) > 0 by decide, if_true]
  split <;> omega
theorem two_small {n : Nat} (h : n ≤ 1000) : Builtin.Range.small 2 (2 * ((n : Int) + 1)) 2 = true := by
  unfold Builtin.Range.small
  rw [two_size]
  simp only [show (2 : Int) > 0 by decide, if_true, Bool.and_eq_true, Bool.or_eq_true]
  unfold Builtin.Range.rangeFitsLong
  simp only [Bool.and_eq_true, decide_eq_true_eq]
  refine ⟨⟨⟨⟨?_, ?_⟩, ?_⟩, ?_⟩, .inr ?_⟩ <;> omega
theorem items_repl {c a : Int} {h : Heap} : ∀ (n : Nat) (acc : List Value), acc.length = n → (∀ (j : Nat) (v : Value), acc[j]? = some v → ∃ t, v = Value.int (a + j * c) t) → RepL h (((List.range n).map fun i : Nat => a + i * c).map PV.int) acc
  | 0, acc, hn, _ => by
    have : acc = [] := by simpa using hn
    subst this; simp [RepL]
  | n + 1, acc, hn, hi => by
    have hne : acc ≠ [] := by intro e; subst e; simp at hn
    obtain ⟨l, v, rfl⟩ : ∃ l v, acc = l ++ [v] := ⟨acc.dropLast, acc.getLast hne, (List.dropLast_concat_getLast hne).symm⟩
    have hl : l.length = n := by simpa using hn
    rw [List.range_succ, List.map_append, List.map_append]
    refine RepL.snoc (items_repl n l hl fun j v' hj => hi j v' ?_) ?_
    · have : j < l.length := by
        rcases Nat.lt_or_ge j l.length with h | h
        · exact h
        · rw [List.getElem?_eq_none h] at hj; cases hj
      rw [List.getElem?_append_left this]; exact hj
    · have := hi n v (by rw [← hl]; simp)
      exact this
theorem ev_two {e1 e2 e3 : Expr} {p p' pos pos' : Pos} {n : Nat} (hh : A.handled = none) (G : GE w env h₁) (hx : env.kindOf "range" = some .globalImplicit) (hy : env.kindOf "list" = some .globalImplicit) (hn : n ≤ 1000)
    (h1 : EvP w A env h₁ e1 (.int 2)) (h2 : EvP w A env h₁ e2 (.int (2 * ((n : Int) + 1)))) (h3 : EvP w A env h₁ e3 (.int 2)) (hp : Builtin.divisionGoesByPylong (2 * ((n : Int) + 1) - 2) 2 = false)
    (hs1 : ∀ rest, starEach (e1 :: rest) env = (false, eval e1 env) :: starEach rest env := by intro _; rfl) (hs2 : ∀ rest, starEach (e2 :: rest) env = (false, eval e2 env) :: starEach rest env := by intro _; rfl) (hs3 : ∀ rest, starEach (e3 :: rest) env = (false, eval e3 env) :: starEach rest env := by intro _; rfl) :
    EvF w A env h₁ (.Call (.Name "list" p) [.Call (.Name "range" p') [e1, e2, e3] [] pos'] [] pos) (.list (((List.range n).map fun i : Nat => 2 + (i : Int) * 2).map PV.int)) := .mk fun s E k t => by
  refine wpAny_Call_NameR ((nm_builtin (A := A) G hy (b_list w.params) (by kernel_rfl)).run s _ _ k ?_)
  have hs : ∀ rest, starEach (.Call (.Name "range" p') [e1, e2, e3] [] pos' :: rest) env = (false, eval (.Call (.Name "range" p') [e1, e2, e3] [] pos') env) :: starEach rest env := by intro _; rfl
  refine callWith_of (P := fun h => Ext h₁ h) (by rw [hs]; rfl) (fun h x => keeps_val (fun a => by simp) _ h x) ?_
  rw [hs]
  refine evalArgs_plain (Calls.spliced_cons (wp_use (ev_range3 G hx h1 h2 h3 (by decide) hp hs1 hs2 hs3 s _ k t) fun v s₁ r q => Calls.spliced_nil ?_))
  obtain ⟨r, t', u, x, rfl, hr⟩ := r
  refine ⟨k.trans q.ext, call_list_rangeT hh hr (two_small hn) (two_size n) (by omega) fun h' tk acc' c' le hk ho hit => ?_⟩
  have q' : Kp s₁ { s₁ with heap := h', toks := tk } := ⟨h', tk, rfl, hk, le⟩
  refine ⟨?_, q.trans q'⟩
  have rl := items_repl (c := 2) (a := 2) (h := h') n acc'.toList (by simpa using hit.1) (fun j v hj => hit.2 j v (by simpa using hj))
  have nw : s.heap.get? s₁.heap.objs.size = none := by
    cases e : s.heap.get? s₁.heap.objs.size with
    | none => rfl
    | some o => exact absurd (Heap.lt_size (q.ext _ _ e)) (Nat.lt_irrefl _)
  exact ⟨s₁.heap.objs.size, acc'.toList, rfl, nw, ⟨c', ho⟩, RepPL.imm (immL_ints _) rl⟩
end T55

end
section
open PySem PySem.W PyProof.Rows PySem.Calls
namespace T55
set_option linter.unusedVariables false
/-- a text as its code points -/
noncomputable def tx (l : List Nat) : Str := ⟨l.toArray⟩
theorem tx_len (l : List Nat) : (tx l).length = l.length := by simp [tx, Str.length]
theorem tx_of (x : Str) : tx x.cps.toList = x := by cases x; rfl
theorem filterMap_run {α : Type} (l : List α) : ∀ (m lo : Nat), lo + m ≤ l.length → ((List.range m).map (lo + ·)).filterMap (l[·]?) = (l.drop lo).take m
  | 0, lo, _ => by simp
  | m + 1, lo, h => by
    rw [List.range_succ, List.map_append, List.filterMap_append, filterMap_run l m lo (by omega), List.take_add_one, List.getElem?_drop]
    have : lo + m < l.length := by omega
    simp [List.getElem?_eq_getElem this]
theorem slice_run (l : List Nat) (a b : Nat) (h1 : a ≤ b) (h2 : b ≤ l.length) (lo hi : Option Int)
    (hx : Builtin.Str.strSliceIndices lo hi 1 l.length = sliceRange a b 1) : Txt.slice (tx l) lo hi = tx ((l.drop a).take (b - a)) := by
  have e0 : sliceRange (a : Int) (b : Int) 1 = (List.range (b - a)).map (a + ·) := sliceRange_one a b
  unfold Txt.slice
  rw [tx_len, hx, e0]
  have hlen : ((List.range (b - a)).map (a + ·)).length = b - a := by simp
  split
  · rename_i h
    simp only [hlen, Bool.and_eq_true, beq_iff_eq] at h
    have ha : a = 0 := by omega
    have hb : b = l.length := by omega
    subst ha hb
    simp
  · show Str.mk _ = Str.mk _
    congr 1
    have := filterMap_run l (b - a) a (by omega)
    rw [← this]
    have e1 : (fun i : Nat => (tx l).cps[i]?) = (fun i : Nat => l[i]?) := by funext i; simp [tx]
    rw [e1]
noncomputable def clipA (lo : Option Int) (n : Nat) : Int := match lo with | none => 0 | some i => max 0 (min (if i < 0 then i + (n : Int) else i) (n : Int))
noncomputable def clipB (hi : Option Int) (n : Nat) : Int := match hi with | none => (n : Int) | some i => max 0 (min (if i < 0 then i + (n : Int) else i) (n : Int))
theorem idx_eq (lo hi : Option Int) (n a b : Nat) (h1 : clipA lo n = (a : Int)) (h2 : clipB hi n = (b : Int)) :
    Builtin.Str.strSliceIndices lo hi 1 n = sliceRange a b 1 := by
  rw [← h1, ← h2]
  unfold Builtin.Str.strSliceIndices clipA clipB
  simp only [show (1 : Int) > 0 by decide, if_true]
  cases lo <;> cases hi <;> rfl
theorem slice_from (l : List Nat) (p : Nat) (h : p ≤ l.length) : Txt.slice (tx l) (some (p : Int)) none = tx (l.drop p) := by
  rw [slice_run l p l.length h (Nat.le_refl _) _ _ (idx_eq _ _ _ _ _ (by simp only [clipA, clipB]; rw [if_neg (by omega)]; omega) rfl)]
  congr 1
  rw [← List.length_drop, List.take_length]
theorem slice_upto (l : List Nat) (q : Int) (h0 : -(l.length : Int) ≤ q) (h1 : q < 0) : Txt.slice (tx l) none (some q) = tx (l.take ((l.length : Int) + q).toNat) := by
  rw [slice_run l 0 ((l.length : Int) + q).toNat (Nat.zero_le _) (by omega) _ _ (idx_eq _ _ _ _ _ rfl (by simp only [clipA, clipB]; rw [if_pos h1]; omega))]
  simp
theorem slice_all (l : List Nat) : Txt.slice (tx l) none none = tx l := by
  rw [slice_run l 0 l.length (Nat.zero_le _) (Nat.le_refl _) _ _ (idx_eq _ _ _ _ _ rfl rfl)]
  simp
theorem slice_mid (l : List Nat) (a b : Nat) (h1 : a ≤ b) (h2 : b ≤ l.length) : Txt.slice (tx l) (some (a : Int)) (some (b : Int)) = tx ((l.drop a).take (b - a)) :=
  slice_run l a b h1 h2 _ _ (idx_eq _ _ _ _ _ (by simp only [clipA, clipB]; rw [if_neg (by omega)]; omega) (by simp only [clipA, clipB]; rw [if_neg (by omega)]; omega))
theorem seqIndex_at {n : Nat} {i : Int} {j : Nat} (h : (0 ≤ i ∧ i = j ∨ i < 0 ∧ i + n = j) ) (hj : j < n) : seqIndex? i n = some j := by
  unfold seqIndex?
  rcases h with ⟨h0, rfl⟩ | ⟨h0, h1⟩
  · have : ¬ ((j : Int) < 0) := by omega
    simp only [this, if_false]
    simp [hj]
  · simp only [h0, if_true]
    have e : i + (n : Int) = (j : Int) := h1
    rw [e]
    simp [hj]
theorem item_at (l : List Nat) (i : Int) (j : Nat) (h : (0 ≤ i ∧ i = j ∨ i < 0 ∧ i + l.length = j)) (hj : j < l.length) : Txt.item (tx l) i = tx [l.getD j 0] := by
  unfold Txt.item Txt.charAt
  rw [tx_len, seqIndex_at h hj]
  have : (tx l).cps[j]? = some l[j] := by simp [tx, hj]
  simp only [Option.bind_some, this, Option.getD_some]
  simp [tx, List.getD_eq_getElem?_getD, hj]
end T55

end
section
open PySem PySem.W PyProof.Rows PySem.Calls
namespace T55
set_option linter.unusedVariables false
/-- what one letter costs against another -/
noncomputable def co (x y : Nat) : Int := cost (tx [x]) (tx [y])
structure LS where
  row : List Int
  dist : Int
  res : Int
  mn : Int
/-- one turn of the inner loop at index i, the letter of the shorter text being c -/
noncomputable def lin (b c : Nat) (i : Nat) (t : LS) : LS :=
  let d := t.row.getD i 0
  let r := min (min t.res d + 2) (t.dist + co b c)
  ⟨t.row.set i r, d, r, if r < t.mn then r else t.mn⟩
/-- the inner loop's first turns -/
noncomputable def linN (b : Nat) (a : List Nat) (t : LS) : Nat → LS
  | 0 => t
  | i + 1 => lin b (a.getD i 0) i (linN b a t i)
/-- the row after the outer loop's turn j -/
noncomputable def lout (a : List Nat) (b : Nat) (j : Nat) (row : List Int) : LS := linN b a ⟨row, 2 * j, 2 * j, 9223372036854775807⟩ a.length
/-- the outer loop -/
noncomputable def lall (a : List Nat) (mc : Int) : List Nat → Nat → List Int → Int → Int
  | [], _, _, res => res
  | b :: bs, j, row, _ => let t := lout a b j row; if t.mn > mc then mc + 1 else lall a mc bs (j + 1) t.row t.res
/-- the common beginning -/
noncomputable def lpre : List Nat → List Nat → Nat
  | x :: xs, y :: ys => if x = y then lpre xs ys + 1 else 0
  | _, _ => 0
noncomputable def lrow (n : Nat) : List Int := (List.range n).map fun i : Nat => 2 + (i : Int) * 2
noncomputable def lmain (a b : List Nat) (mc : Int) : Int :=
  let (a, b) := if b.length < a.length then (b, a) else (a, b)
  if ((b.length : Int) - a.length) * 2 > mc then mc + 1 else lall a mc b 0 (lrow a.length) 0
/-- what the distance function answers for texts of at most forty letters -/
noncomputable def lev (a b : List Nat) (mc : Int) : Int :=
  if a = b then 0 else
  let p := lpre a b
  let a := a.drop p
  let b := b.drop p
  let q := lpre a.reverse b.reverse
  let a := a.take (a.length - q)
  let b := b.take (b.length - q)
  if a = [] ∨ b = [] then 2 * (a.length + b.length : Nat) else
  if a.length > 40 ∨ b.length > 40 then mc + 1 else lmain a b mc
theorem linN_len (b : Nat) (a : List Nat) (t : LS) : ∀ i, (linN b a t i).row.length = t.row.length
  | 0 => rfl
  | i + 1 => by simp [linN, lin, linN_len b a t i]
end T55

end
section
open PySem PySem.W PyProof.Rows PySem.Calls
namespace T55
set_option linter.unusedVariables false
theorem lpre_le : ∀ a b : List Nat, lpre a b ≤ a.length ∧ lpre a b ≤ b.length
  | [], _ => by simp [lpre]
  | _ :: _, [] => by simp [lpre]
  | x :: xs, y :: ys => by
    have := lpre_le xs ys
    simp only [lpre, List.length_cons]
    split <;> omega
theorem lpre_eq : ∀ (a b : List Nat) (i : Nat), i < lpre a b → a.getD i 0 = b.getD i 0
  | [], _, i, h => by simp [lpre] at h
  | _ :: _, [], i, h => by simp [lpre] at h
  | x :: xs, y :: ys, i, h => by
    simp only [lpre] at h
    split at h
    · cases i with
      | zero => simpa
      | succ i => simpa using lpre_eq xs ys i (by omega)
    · omega
theorem lpre_stop : ∀ (a b : List Nat), lpre a b < a.length → lpre a b < b.length → a.getD (lpre a b) 0 ≠ b.getD (lpre a b) 0
  | [], _, h, _ => by simp at h
  | _ :: _, [], _, h => by simp at h
  | x :: xs, y :: ys, h1, h2 => by
    simp only [lpre] at h1 h2 ⊢
    split at h1
    · rename_i e
      rw [if_pos e] at h2 ⊢
      simp only [List.length_cons] at h1 h2
      simpa using lpre_stop xs ys (by omega) (by omega)
    · rename_i e
      rw [if_neg e]
      simpa using e
end T55

end
section
open PySem PySem.W PyProof.Rows PySem.Calls
namespace T55
set_option linter.unusedVariables false
theorem rev_getD (l : List Nat) (i : Nat) (h : i < l.length) : l.reverse.getD i 0 = l.getD (l.length - 1 - i) 0 := by
  simp only [List.getD_eq_getElem?_getD, List.getElem?_reverse h]
/-- the common end's facts -/
theorem lsuf_eq (a b : List Nat) (i : Nat) (h : i < lpre a.reverse b.reverse) : a.getD (a.length - 1 - i) 0 = b.getD (b.length - 1 - i) 0 := by
  have l := lpre_le a.reverse b.reverse
  simp only [List.length_reverse] at l
  rw [← rev_getD a i (by omega), ← rev_getD b i (by omega)]
  exact lpre_eq _ _ i h
theorem lsuf_stop (a b : List Nat) (h1 : lpre a.reverse b.reverse < a.length) (h2 : lpre a.reverse b.reverse < b.length) :
    a.getD (a.length - 1 - lpre a.reverse b.reverse) 0 ≠ b.getD (b.length - 1 - lpre a.reverse b.reverse) 0 := by
  rw [← rev_getD a _ h1, ← rev_getD b _ h2]
  exact lpre_stop _ _ (by simpa using h1) (by simpa using h2)
theorem slice_post (l : List Nat) (i : Nat) (h : i ≤ l.length) : Txt.slice (tx l) none (if -(i : Int) = 0 then none else some (-(i : Int))) = tx (l.take (l.length - i)) := by
  by_cases hi : i = 0
  · subst hi
    simpa using slice_all l
  · rw [if_neg (by omega), slice_upto l _ (by omega) (by omega)]
    congr 2
    omega
end T55

end
section
open PySem PySem.W PyProof.Rows PySem.Calls
namespace T55
set_option linter.unusedVariables false
noncomputable def lend (a b : List Nat) (mc : Int) : Int :=
  if a = [] ∨ b = [] then 2 * (a.length + b.length : Nat) else
  if a.length > 40 ∨ b.length > 40 then mc + 1 else lmain a b mc
noncomputable def lmid (a b : List Nat) (mc : Int) : Int :=
  let q := lpre a.reverse b.reverse
  lend (a.take (a.length - q)) (b.take (b.length - q)) mc
theorem lev_mid (a b : List Nat) (mc : Int) (h : a ≠ b) : lev a b mc = lmid (a.drop (lpre a b)) (b.drop (lpre a b)) mc := by
  unfold lev; rw [if_neg h]; rfl
/-- names of a frame, as a list -/
noncomputable def SubB (ρ : List (Str × PV)) : List (Str × PV) → Prop
  | [] => True
  | (x, d) :: l => ρ.lookup x = some d ∧ SubB ρ l
theorem SubB.look {ρ : List (Str × PV)} : ∀ {l : List (Str × PV)}, SubB ρ l → ∀ x d, l.lookup x = some d → ρ.lookup x = some d
  | [], _, x, d, h => by cases h
  | (y, e) :: l, ⟨h1, h2⟩, x, d, h => by
    rw [List.lookup_cons] at h
    split at h
    · rename_i hc
      have hc := eq_of_beq hc
      subst hc
      cases h
      exact h1
    · exact SubB.look h2 x d h
theorem Fr.sub {env : Env} {ρ ρ' : List (Str × PV)} {s : Shared} (F : T55.Fr env ρ s) (h : SubB ρ ρ') : T55.Fr env ρ' s := F.weaken fun x d hx => h.look x d hx
end T55

end
section
open PySem PySem.W PyProof.Rows PySem.Calls
namespace T55
set_option maxRecDepth 100000
set_option linter.unusedVariables false
variable {w : World} {A : Around} {env : Env} {h₁ : Heap} {s : Shared} {E : Value → Shared → Prop}
/-- the names of the distance function -/
structure KL (env : Env) : Prop where
  F : env.scope.kind = .function
  g : env.globals = 3
  b : env.builtins = 0
  a : env.kindOf "a" = some .local
  bb : env.kindOf "b" = some .local
  mc : env.kindOf "max_cost" = some .local
  pre : env.kindOf "pre" = some .local
  post : env.kindOf "post" = some .local
  row : env.kindOf "row" = some .local
  result : env.kindOf "result" = some .local
  bindex : env.kindOf "bindex" = some .local
  bchar : env.kindOf "bchar" = some .local
  distance : env.kindOf "distance" = some .local
  minimum : env.kindOf "minimum" = some .local
  index : env.kindOf "index" = some .local
  substitute : env.kindOf "substitute" = some .local
  insdel : env.kindOf "insert_delete" = some .local
  len : env.kindOf "len" = some .globalImplicit
  range : env.kindOf "range" = some .globalImplicit
  list : env.kindOf "list" = some .globalImplicit
  min : env.kindOf "min" = some .globalImplicit
  move : env.kindOf "_MOVE_COST" = some .globalImplicit
  maxs : env.kindOf "_MAX_STRING_SIZE" = some .globalImplicit
  cost : env.kindOf "_substitution_cost" = some .globalImplicit
  eq : ∃ (P : Params) (L : Addr), env = callEnv (fdOf (oC28 P)) L 28
theorem kl (P : Params) (L : Addr) : KL (callEnv (fdOf (oC28 P)) L 28) :=
  ⟨by kernel_rfl, by kernel_rfl, by kernel_rfl, by kernel_rfl, by kernel_rfl, by kernel_rfl, by kernel_rfl, by kernel_rfl, by kernel_rfl, by kernel_rfl, by kernel_rfl, by kernel_rfl, by kernel_rfl, by kernel_rfl, by kernel_rfl, by kernel_rfl, by kernel_rfl, by kernel_rfl, by kernel_rfl, by kernel_rfl, by kernel_rfl, by kernel_rfl, by kernel_rfl, by kernel_rfl, P, L, rfl⟩
theorem KL.ge (K : KL env) (X : Ext (HZ w.params) h₁) : GE w env h₁ := ⟨K.g, K.b, K.F, X⟩
theorem KL.gmove (K : KL env) (X : Ext (HZ w.params) h₁) {p : Pos} : EvP w A env h₁ (.Name "_MOVE_COST" p) (.int 2) := by
  obtain ⟨t, g⟩ := g_move w.params
  exact ev_gname (K.ge X) K.move g (fun _ => ⟨t, rfl⟩) (by kernel_rfl)
theorem KL.gmaxs (K : KL env) (X : Ext (HZ w.params) h₁) {p : Pos} : EvP w A env h₁ (.Name "_MAX_STRING_SIZE" p) (.int 40) := by
  obtain ⟨t, g⟩ := g_maxs w.params
  exact ev_gname (K.ge X) K.maxs g (fun _ => ⟨t, rfl⟩) (by kernel_rfl)
theorem ev_lenS {e : Expr} {p pos : Pos} {l : List Nat} (G : GE w env h₁) (hx : env.kindOf "len" = some .globalImplicit) (h : EvP w A env h₁ e (.str (tx l))) (hz : l.length ≤ 1000000) (hs : ∀ rest, starEach (e :: rest) env = (false, eval e env) :: starEach rest env := by intro _; rfl) :
    EvP w A env h₁ (.Call (.Name "len" p) [e] [] pos) (.int l.length) := by
  have := ev_call (p := p) (pos := pos) (nm_builtin G hx (b_len w.params) (by kernel_rfl)) (keeps_val fun a => by simp) (args_cons h args_nil hs) (by simp) (cl_len_str (by rw [tx_len]; exact hz))
  rwa [tx_len] at this
/-- what a def's text ends with -/
noncomputable abbrev RQ (L : Addr) (s : Shared) (d : PV) : Flow → Shared → Prop := fun f s'' => ∃ v, f = .ret v ∧ Rep s''.heap d v ∧ TK L s s''
theorem RQ.left {L : Addr} {s s' : Shared} {d : PV} {f : Flow} {s'' : Shared} (k : TK L s s') (q : RQ L s' d f s'') : RQ L s d f s'' := by
  obtain ⟨v, rfl, r, t⟩ := q
  exact ⟨v, rfl, r, k.trans t⟩
theorem RQ.seq {L : Addr} {s0 : Shared} {d : PV} {ss : List Stmt} (k : TK L s0 s) (h : Sq w A env ss (RQ L s d) E s) : Sq w A env ss (RQ L s0 d) E s :=
  ⟨wpAny_mono h.run (fun f s'' z => z.left k) fun _ _ e => e⟩
theorem op_isub {a b : Int} : ∀ (s : Shared) (E : Value → Shared → Prop) (u v : Value), 1 ≤ s.toks → Rep s.heap (.int a) u → Rep s.heap (.int b) v → wpAny (model PW w) A (inplaceOp .Sub u v) (fun v s' => Rep s'.heap (.int (a - b)) v ∧ Kp s s') E s := fun s E u v t ra rb => by
  obtain ⟨x, rfl⟩ := ra; obtain ⟨y, rfl⟩ := rb
  exact PySem.P.isub_int ⟨⟨s.toks, rfl⟩, Kp.tok s 1⟩
theorem ts_txt {e : Expr} {l : List Nat} (h : EvP w A env h₁ e (.str (tx l))) (hz : l.length ≤ 1000000) (he : ∀ whole : Sem Value, PySem.isTrue e env whole = (do let v ← whole; standAt e.pos; holding [v] (truthy v)) := by intro _; rfl) : TsP w A env h₁ e (decide (0 < l.length)) := by
  have z : ((((tx l).length : Nat) : Int) != 0) = decide (0 < l.length) := by rw [tx_len, Bool.eq_iff_iff]; simp [List.length_pos_iff]
  rw [← z]
  exact ts_str h (by rw [tx_len]; exact hz) he
theorem sq_eq {ss ss' : List Stmt} {Q : Flow → Shared → Prop} (e : ss = ss') (h : Sq w A env ss' Q E s) : Sq w A env ss Q E s := e ▸ h
theorem LstO.isS {r : Addr} {ds : List PV} (R : LstO r ds s) : (s.heap.get? r).isSome = true := by
  obtain ⟨vs, ⟨n, hv⟩, hr⟩ := R.pl
  rw [hv]; rfl
theorem Fr.isS {ρ : List (Str × PV)} (F : T55.Fr env ρ s) : (s.heap.get? env.locals).isSome = true := by
  obtain ⟨m, hns, _⟩ := F.ns
  obtain ⟨o, es, ep, ho, _⟩ := hns
  rw [ho]; rfl
/-- a change of a new object and of the names -/
theorem TK.km {L r : Addr} {s0 s1 s2 : Shared} (a : TK L s0 s1) (n : s0.heap.get? r = none) (k : KM [L, r] s1 s2) (m : ∃ m, s2.heap.Ns L m) : TK L s0 s2 := by
  obtain ⟨h1, t1, rfl, e1, n1, l1⟩ := a
  obtain ⟨h2, t2, rfl, e2, n2, l2⟩ := k
  refine ⟨h2, t2, rfl, fun b o ne e => e2 b o (fun hb => ?_) (e1 b o ne e), m, Nat.le_trans l1 l2⟩
  simp only [List.mem_cons, List.not_mem_nil, or_false] at hb
  rcases hb with rfl | rfl
  · exact ne rfl
  · rw [n] at e; cases e
theorem KM.mono {M M' : List Addr} {s s' : Shared} (k : KM M s s') (le : ∀ b ∈ M, b ∈ M') : KM M' s s' := by
  obtain ⟨h1, t1, rfl, e1, n1, l1⟩ := k
  refine ⟨h1, t1, rfl, fun b o hb e => e1 b o (fun h => hb (le b h)) e, fun b hb e => ?_, l1⟩
  by_cases h : b ∈ M
  · exact n1 b h e
  · obtain ⟨o, ho⟩ := Option.isSome_iff_exists.mp e
    rw [e1 _ _ h ho]; rfl
theorem KM.ext {M : List Addr} {s s' : Shared} {h : Heap} (k : KM M s s') (hM : ∀ b ∈ M, h.get? b = none) (x : Ext h s.heap) : Ext h s'.heap := fun b o e => k.get (fun hb => by rw [hM b hb] at e; cases e) (x b o e)
theorem Fr.ns' {ρ : List (Str × PV)} (F : T55.Fr env ρ s) : ∃ m, s.heap.Ns env.locals m := by obtain ⟨m, a, _⟩ := F.ns; exact ⟨m, a⟩
theorem KM.get' {M : List Addr} {s s' : Shared} (k : KM M s s') {b : Addr} (e : (s.heap.get? b).isSome = true) : (s'.heap.get? b).isSome = true := by
  by_cases h : b ∈ M
  · obtain ⟨h1, t1, rfl, e1, n1, l1⟩ := k
    exact n1 b h e
  · obtain ⟨o, ho⟩ := Option.isSome_iff_exists.mp e
    rw [k.get h ho]; rfl
end T55

end
section
open PySem PySem.W PyProof.Rows PySem.Calls
namespace T55
set_option maxRecDepth 100000
set_option linter.unusedVariables false
variable {w : World} {A : Around} {env : Env} {h₁ : Heap} {s : Shared} {E : Value → Shared → Prop}
noncomputable def lfin (a b : List Nat) (mc : Int) : Int := if ((b.length : Int) - a.length) * 2 > mc then mc + 1 else lall a mc b 0 (lrow a.length) 0
theorem drop_getD (b : List Nat) (j : Nat) (h : j < b.length) : b.drop j = b.getD j 0 :: b.drop (j + 1) := by
  rw [List.drop_eq_getElem_cons h]
  simp [List.getD_eq_getElem?_getD, h]
theorem ints_getD (l : List Int) (i : Nat) (h : i < l.length) : (l.map PV.int)[i]? = some (.int (l.getD i 0)) := by
  simp [List.getD_eq_getElem?_getD, h]
theorem fits_nat {i : Nat} (h : i ≤ 1000) : fitsSsize (i : Int) = true := by unfold fitsSsize; rw [decide_eq_false (by omega), decide_eq_false (by omega)]; rfl
theorem imm3 {ρ : List (Str × PV)} (h : ∀ p ∈ ρ, Imm p.2) : ∀ x d, ρ.lookup x = some d → Imm d := fun x d hx => by
  induction ρ with
  | nil => cases hx
  | cons p ρ ih =>
    obtain ⟨y, e⟩ := p
    rw [List.lookup_cons] at hx
    split at hx
    · cases hx; exact h (y, d) List.mem_cons_self
    · exact ih (fun p hp => h p (List.mem_cons_of_mem _ hp)) hx
theorem mem_lt {a : List Nat} {i : Nat} (h : i < a.length) : a.getD i 0 ∈ a := by
  have : a.getD i 0 = a[i] := by simp [List.getD_eq_getElem?_getD, h]
  rw [this]; exact List.getElem_mem h
/-- the inner loop -/
theorem lev_inner {a b : List Nat} {mc : Int} {r : Addr} {j : Nat} {row : List Int} (K : KL env) (ha : a.length ≤ 40) (hj : j < b.length) (hrl : row.length = a.length) (hl : ∀ c, c ∈ a ∨ c ∈ b → (Txt.lower (tx [c])).length ≤ 1000) (hz : (HZ w.params).get? env.locals = none) (hzr : (HZ w.params).get? r = none) (ne : r ≠ env.locals) (X : Ext (HZ w.params) s.heap) (O : Ok A 1)
    {rest : List Stmt} {Q : Flow → Shared → Prop} {E : Value → Shared → Prop}
    (F : T55.Fr env [("minimum", .int 9223372036854775807), ("result", .int (2 * (j : Int))), ("distance", .int (2 * (j : Int))), ("bchar", .str (tx [b.getD j 0])), ("bindex", .int (j : Int)), ("row", .adr r), ("b", .str (tx b)), ("a", .str (tx a)), ("max_cost", .int mc)] s) (R : LstO r (row.map PV.int) s)
    (hq : ∀ s', T55.Fr env [("minimum", .int (lout a (b.getD j 0) j row).mn), ("result", .int (lout a (b.getD j 0) j row).res), ("row", .adr r), ("b", .str (tx b)), ("a", .str (tx a)), ("max_cost", .int mc)] s' → LstO r ((lout a (b.getD j 0) j row).row.map PV.int) s' → KM [env.locals, r] s s' → Sq w A env rest Q E s') :
    ∀ body, body = (match (bodyOf 5)[15]? with | some (Stmt.For _ _ bd _ _) => (match bd[3]? with | some (Stmt.For t i bd2 o p) => some (Stmt.For t i bd2 o p) | _ => none) | _ => none) → 
      ∀ st, body = some st → Sq w A env (st :: rest) Q E s := by
  intro body hb st hst
  subst hst
  conv at hb => rhs; whnf
  injection hb with hb
  subst hb
  have hM : ∀ c ∈ [env.locals, r], (s.heap.get? c).isSome = true := fun c hc => by
    simp only [List.mem_cons, List.not_mem_nil, or_false] at hc
    rcases hc with rfl | rfl
    · exact F.isS
    · exact R.isS
  have hMz : ∀ c ∈ [env.locals, r], (HZ w.params).get? c = none := fun c hc => by
    simp only [List.mem_cons, List.not_mem_nil, or_false] at hc
    rcases hc with rfl | rfl
    · exact hz
    · exact hzr
  refine sq_for [env.locals, r] F.tk hM (itm_range (n := a.length) O.handled noGo_name (by omega) F.tk hM fun E' => ?_)
    (fun i s' => T55.Fr env [("minimum", .int (linN (b.getD j 0) a ⟨row, 2 * j, 2 * j, 9223372036854775807⟩ i).mn), ("result", .int (linN (b.getD j 0) a ⟨row, 2 * j, 2 * j, 9223372036854775807⟩ i).res), ("distance", .int (linN (b.getD j 0) a ⟨row, 2 * j, 2 * j, 9223372036854775807⟩ i).dist), ("bchar", .str (tx [b.getD j 0])), ("row", .adr r), ("b", .str (tx b)), ("a", .str (tx a)), ("max_cost", .int mc)] s' ∧
      LstO r ((linN (b.getD j 0) a ⟨row, 2 * j, 2 * j, 9223372036854775807⟩ i).row.map PV.int) s') ?_ ?_ ?_ ?_
  · exact ev_range (K.ge X) K.range (ev_lenS (K.ge X) K.len (F.ev (by rfl) K.F K.a (by kernel_rfl)) (by omega)) (by intro _; rfl) s E' (Ext.refl _) F.tk
  · intro i s' h' tk ⟨Fi, Ri⟩ hk le
    refine ⟨Fi.stab (imm3 (by simp [Imm])) (fun o e => hk _ (.inl (by simp)) o e) le, Ri.get fun o e => hk _ (.inl (by simp)) o e⟩
  · intro s' k
    exact ⟨(F.kp k).sub ⟨by rfl, by rfl, by rfl, by rfl, by rfl, by rfl, by rfl, by rfl, trivial⟩, R.kp k⟩
  · intro i s' E' v hi ⟨Fi, Ri⟩ km rv
    have hlen : (linN (b.getD j 0) a ⟨row, 2 * j, 2 * j, 9223372036854775807⟩ i).row.length = a.length := by rw [linN_len]; exact hrl
    have hstep : linN (b.getD j 0) a ⟨row, 2 * j, 2 * j, 9223372036854775807⟩ (i + 1) = lin (b.getD j 0) (a.getD i 0) i (linN (b.getD j 0) a ⟨row, 2 * j, 2 * j, 9223372036854775807⟩ i) := rfl
    rw [hstep]
    generalize hT : linN (b.getD j 0) a ⟨row, 2 * j, 2 * j, 9223372036854775807⟩ i = T at *
    obtain ⟨trow, td, tr, tm⟩ := T
    simp only at Fi Ri hlen
    have Xi : Ext (HZ w.params) s'.heap := km.ext hMz X
    have tkr : ∀ {s1 s2 : Shared}, TK env.locals s1 s2 → KM [env.locals, r] s1 s2 := fun t => KM.of_tk (by simp) t
    refine as_name Fi (rv.imp (fun c hc e => hc (by simp [e])) fun _ _ _ e => e) K.index K.F fun s1 F1 t1 => ?_
    have X1 := t1.ext hz Xi
    have R1 := Ri.tk ne t1
    have ia := item_at a (i : Int) i (.inl ⟨by omega, rfl⟩) hi
    have eai : ∀ {q1 q2 q3 : Pos}, EvP w A env s1.heap (.Subscript (.Name "a" q1) (.Name "index" q2) q3) (.str (tx [a.getD i 0])) := by
      intro q1 q2 q3
      rw [← ia]
      exact ev_item_str (F1.ev (by rfl) K.F K.a (by kernel_rfl)) (F1.ev (by rfl) K.F K.index (by kernel_rfl)) (fits_nat (by omega)) (by omega) (by rw [tx_len]; omega)
    refine sq_assign F1 (EvP.imm (ev_bin (F1.ev (by rfl) K.F K.distance (by kernel_rfl)) (ev_call (nm_global (K.ge X1) K.cost (g_cost w.params) (by kernel_rfl)) ((fn_cost w.params).keeps X1) (args_cons (F1.ev (by rfl) K.F K.bchar (by kernel_rfl)) (args_cons eai args_nil)) (by simp) (cl_cost (hl _ (.inr (mem_lt hj))) (hl _ (.inl (mem_lt hi))) X1 O)) op_add_int) trivial) K.substitute K.F (fun s2 F2 t2 => ?_)
    have R2 := R1.tk ne t2
    refine sq_assign F2 (EvP.imm (ev_item_list (d := .int (trow.getD i 0)) (R2.ev (F2.ev (by rfl) K.F K.row (by kernel_rfl))) (F2.ev (by rfl) K.F K.index (by kernel_rfl)) (by omega) (by omega) (by rw [show ((i : Int)).toNat = i by omega]; exact ints_getD _ _ (by omega))) trivial) K.distance K.F (fun s3 F3 t3 => ?_)
    have X3 := t3.ext hz (t2.ext hz X1)
    have R3 := R2.tk ne t3
    refine sq_assign F3 (EvP.imm (ev_bin (ev_call (nm_builtin (K.ge X3) K.min (b_min w.params) (by kernel_rfl)) (keeps_val fun a => by simp) (args_cons (F3.ev (by rfl) K.F K.result (by kernel_rfl)) (args_cons (F3.ev (by rfl) K.F K.distance (by kernel_rfl)) args_nil)) (by simp) (cl_min2 O.handled)) (K.gmove X3) op_add_int) trivial) K.insdel K.F (fun s4 F4 t4 => ?_)
    have X4 := t4.ext hz X3
    have R4 := R3.tk ne t4
    refine sq_assign F4 (EvP.imm (ev_call (nm_builtin (K.ge X4) K.min (b_min w.params) (by kernel_rfl)) (keeps_val fun a => by simp) (args_cons (F4.ev (by rfl) K.F K.insdel (by kernel_rfl)) (args_cons (F4.ev (by rfl) K.F K.substitute (by kernel_rfl)) args_nil)) (by simp) (cl_min2 O.handled)) trivial) K.result K.F (fun s5 F5 t5 => ?_)
    have R5 := R4.tk ne t5
    refine sq_set (d := .int _) F5 (imm3 (by simp [Imm])) R5 (by rfl) ne (k := i) (by rw [List.length_map]; omega) (by omega) (F5.ev (by rfl) K.F K.result (by kernel_rfl)) trivial (F5.ev (by rfl) K.F K.index (by kernel_rfl)) K.F K.row (by kernel_rfl) (fun s6 F6 R6 k6 => ?_)
    have kall : KM [env.locals, r] s' s6 := ((tkr t1).trans ((tkr t2).trans ((tkr t3).trans ((tkr t4).trans (tkr t5))))).trans (k6.mono (by simp))
    rw [← List.map_set] at R6
    refine sq_if (ts_cmp (F6.ev (by rfl) K.F K.result (by kernel_rfl)) (F6.ev (by rfl) K.F K.minimum (by kernel_rfl)) cm_lt_int) F6.tk (fun h s7 k7 => ?_) (fun h s7 k7 => sq_nil (sq_nil (.inl ⟨rfl, ⟨?_, R6.kp k7⟩, kall.trans (KM.of_kp k7)⟩)))
    · have F7 := F6.kp k7
      refine sq_assign (d := .int _) F7 (F7.ev (by rfl) K.F K.result (by kernel_rfl) |>.imm trivial) K.minimum K.F (fun s8 F8 t8 => sq_nil (sq_nil (.inl ⟨rfl, ⟨?_, (R6.kp k7).tk ne t8⟩, kall.trans ((KM.of_kp k7).trans (tkr t8))⟩)))
      have := of_decide_eq_true h
      have e : (lin (b.getD j 0) (a.getD i 0) i ⟨trow, td, tr, tm⟩).mn = min (min tr (trow.getD i 0) + 2) (td + co (b.getD j 0) (a.getD i 0)) := if_pos this
      rw [e]
      exact F8.sub ⟨by rfl, by rfl, by rfl, by rfl, by rfl, by rfl, by rfl, by rfl, trivial⟩
    · have := of_decide_eq_false h
      have e : (lin (b.getD j 0) (a.getD i 0) i ⟨trow, td, tr, tm⟩).mn = tm := if_neg this
      rw [e]
      exact (F6.kp k7).sub ⟨by rfl, by rfl, by rfl, by rfl, by rfl, by rfl, by rfl, by rfl, trivial⟩
  · intro s' ⟨Fn, Rn⟩ km
    exact hq s' (Fn.sub ⟨by rfl, by rfl, by rfl, by rfl, by rfl, by rfl, trivial⟩) Rn km
end T55

end
section
open PySem PySem.W PyProof.Rows PySem.Calls
namespace T55
set_option maxRecDepth 100000
set_option linter.unusedVariables false
variable {w : World} {A : Around} {env : Env} {h₁ : Heap} {s : Shared} {E : Value → Shared → Prop}
theorem two_div : ∀ n : Nat, n < 41 → Builtin.divisionGoesByPylong (2 * ((n : Int) + 1) - 2) 2 = false := by decide +kernel
theorem lrow_len (n : Nat) : (lrow n).length = n := by simp [lrow]
theorem lout_len (a : List Nat) (c j : Nat) (row : List Int) : (lout a c j row).row.length = row.length := linN_len _ _ _ _
theorem lev_fin {a b : List Nat} {mc : Int} (K : KL env) (ha : a.length ≤ 40) (hb : b.length ≤ 40) (hl : ∀ c, c ∈ a ∨ c ∈ b → (Txt.lower (tx [c])).length ≤ 1000) (hm : -1000000 ≤ mc ∧ mc ≤ 1000000) (hz : (HZ w.params).get? env.locals = none) (X : Ext (HZ w.params) s.heap) (O : Ok A 1)
    (F : T55.Fr env [("b", .str (tx b)), ("a", .str (tx a)), ("max_cost", .int mc)] s) :
    Sq w A env (List.drop 12 (bodyOf 5)) (RQ env.locals s (.int (lfin a b mc))) E s := by
  conv in (List.drop 12 (bodyOf 5)) => whnf
  have ea : ∀ {ρ : List (Str × PV)} {x : Str} {s : Shared} {p : Pos}, ρ.lookup ("a" : Str) = some (PV.str x) → Fr env ρ s → EvP w A env s.heap (.Name "a" p) (.str x) := fun h F => F.ev h K.F K.a (by kernel_rfl)
  have eb : ∀ {ρ : List (Str × PV)} {x : Str} {s : Shared} {p : Pos}, ρ.lookup ("b" : Str) = some (PV.str x) → Fr env ρ s → EvP w A env s.heap (.Name "b" p) (.str x) := fun h F => F.ev h K.F K.bb (by kernel_rfl)
  have em : ∀ {ρ : List (Str × PV)} {s : Shared} {p : Pos}, ρ.lookup ("max_cost" : Str) = some (PV.int mc) → Fr env ρ s → EvP w A env s.heap (.Name "max_cost" p) (.int mc) := fun h F => F.ev h K.F K.mc (by kernel_rfl)
  have la : ∀ {ρ : List (Str × PV)} {s : Shared} {p1 p2 p3 : Pos}, ρ.lookup ("a" : Str) = some (PV.str (tx a)) → Fr env ρ s → Ext (HZ w.params) s.heap → EvP w A env s.heap (.Call (.Name "len" p1) [.Name "a" p2] [] p3) (.int a.length) := fun h F X => ev_lenS (K.ge X) K.len (ea h F) (by omega)
  have lb : ∀ {ρ : List (Str × PV)} {s : Shared} {p1 p2 p3 : Pos}, ρ.lookup ("b" : Str) = some (PV.str (tx b)) → Fr env ρ s → Ext (HZ w.params) s.heap → EvP w A env s.heap (.Call (.Name "len" p1) [.Name "b" p2] [] p3) (.int b.length) := fun h F X => ev_lenS (K.ge X) K.len (eb h F) (by omega)
  refine sq_if (ts_cmp (ev_bin (ev_bin (lb (by rfl) F X) (la (by rfl) F X) op_sub_int) (K.gmove X) (op_mul_int (IntMulOk.of_right (by decide)))) (em (by rfl) F) cm_gt_int) F.tk (fun h s1 k1 => ?_) (fun h s1 k1 => sq_nil ?_)
  · have e : lfin a b mc = mc + 1 := if_pos (of_decide_eq_true h)
    rw [e]
    exact sq_ret (ev_bin (em (by rfl) (F.kp k1)) ev_int op_add_int) (F.kp k1).tk fun v s'' r q => ⟨v, rfl, r, F.tk' (k1.trans q)⟩
  have e : lfin a b mc = lall a mc b 0 (lrow a.length) 0 := if_neg (of_decide_eq_false h)
  rw [e]
  have F1 := F.kp k1
  have X1 := X.trans k1.ext
  refine sq_new F1 (immL_ints (lrow a.length)) (ev_two O.handled (K.ge X1) K.range K.list (n := a.length) (by omega) (K.gmove X1) (ev_bin (K.gmove X1) (ev_bin (la (by rfl) F1 X1) ev_int op_add_int) (op_mul_int (IntMulOk.of_left (by decide)))) (K.gmove X1) (two_div _ (by omega))) K.row K.F (fun s2 r hr ne F2 R2 t2 => ?_)
  have hr0 : s.heap.get? r = none := Nw.of k1.ext hr
  have hzr : (HZ w.params).get? r = none := Nw.of X hr0
  refine sq_assign F2 (EvP.imm ev_int trivial) K.result K.F (fun s3 F3 t3 => ?_)
  have R3 := R2.tk ne t3
  have kk : TK env.locals s s3 := TK.kp_left k1 (t2.trans t3)
  have X3 := kk.ext hz X
  have hM : ∀ c ∈ [env.locals, r], (s3.heap.get? c).isSome = true := fun c hc => by
    simp only [List.mem_cons, List.not_mem_nil, or_false] at hc
    rcases hc with rfl | rfl
    · exact F3.isS
    · exact R3.isS
  have hMz : ∀ c ∈ [env.locals, r], (HZ w.params).get? c = none := fun c hc => by
    simp only [List.mem_cons, List.not_mem_nil, or_false] at hc
    rcases hc with rfl | rfl
    · exact hz
    · exact hzr
  refine sq_for [env.locals, r] F3.tk hM (itm_range (n := b.length) O.handled noGo_name (by omega) F3.tk hM fun E' => ?_)
    (fun j s' => ∃ (row : List Int) (res : Int), T55.Fr env [("result", .int res), ("row", .adr r), ("b", .str (tx b)), ("a", .str (tx a)), ("max_cost", .int mc)] s' ∧ LstO r (row.map PV.int) s' ∧ row.length = a.length ∧
      lall a mc b 0 (lrow a.length) 0 = lall a mc (b.drop j) j row res) ?_ ?_ ?_ ?_
  · exact ev_range (K.ge X3) K.range (lb (by rfl) F3 X3) (by intro _; rfl) s3 E' (Ext.refl _) F3.tk
  · intro i s' h' tk ⟨row, res, Fi, Ri, h1, h2⟩ hk le
    exact ⟨row, res, Fi.stab (imm3 (by simp [Imm])) (fun o e => hk _ (.inl (by simp)) o e) le, Ri.get fun o e => hk _ (.inl (by simp)) o e, h1, h2⟩
  · intro s' k
    exact ⟨lrow a.length, 0, (F3.kp k).sub ⟨by rfl, by rfl, by rfl, by rfl, by rfl, trivial⟩, R3.kp k, lrow_len _, rfl⟩
  · intro j s' E' v hj ⟨row, res, Fi, Ri, hrl, hinv⟩ km rv
    have Xi : Ext (HZ w.params) s'.heap := km.ext hMz X3
    have tkr : ∀ {s1 s2 : Shared}, TK env.locals s1 s2 → KM [env.locals, r] s1 s2 := fun t => KM.of_tk (by simp) t
    refine as_name Fi (rv.imp (fun c hc e => hc (by simp [e])) fun _ _ _ e => e) K.bindex K.F fun s4 F4 t4 => ?_
    have X4 := t4.ext hz Xi
    have R4 := Ri.tk ne t4
    have ib := item_at b (j : Int) j (.inl ⟨by omega, rfl⟩) hj
    refine sq_assign (d := .str (tx [b.getD j 0])) F4 (EvP.imm (ib ▸ ev_item_str (eb (by rfl) F4) (F4.ev (by rfl) K.F K.bindex (by kernel_rfl)) (fits_nat (by omega)) (by omega) (by rw [tx_len]; omega)) trivial) K.bchar K.F (fun s5 F5 t5 => ?_)
    have X5 := t5.ext hz X4
    have R5 := R4.tk ne t5
    refine sq_assign2 (d := .int (2 * (j : Int))) F5 (Int.mul_comm (j : Int) 2 ▸ ev_bin (F5.ev (by rfl) K.F K.bindex (by kernel_rfl)) (K.gmove X5) (op_mul_int (IntMulOk.of_right (by decide)))) trivial K.distance K.result K.F (fun s6 F6 t6 => ?_)
    have X6 := t6.ext hz X5
    have R6 := R5.tk ne t6
    refine sq_assign F6 (EvP.imm ev_int trivial) K.minimum K.F (fun s7 F7 t7 => ?_)
    have X7 := t7.ext hz X6
    have R7 := R6.tk ne t7
    have k37 : KM [env.locals, r] s' s7 := tkr (t4.trans (t5.trans (t6.trans t7)))
    refine lev_inner K ha hj hrl hl hz hzr ne X7 O (F7.sub ⟨by rfl, by rfl, by rfl, by rfl, by rfl, by rfl, by rfl, by rfl, by rfl, trivial⟩) R7 (fun s8 F8 R8 k8 => ?_) _ rfl _ rfl
    have k38 := k37.trans k8
    have hst : lall a mc b 0 (lrow a.length) 0 = if (lout a (b.getD j 0) j row).mn > mc then mc + 1 else lall a mc (b.drop (j + 1)) (j + 1) (lout a (b.getD j 0) j row).row (lout a (b.getD j 0) j row).res := by
      rw [hinv, drop_getD b j hj]; rfl
    refine sq_if (ts_cmp (F8.ev (by rfl) K.F K.minimum (by kernel_rfl)) (em (by rfl) F8) cm_gt_int) F8.tk (fun h s9 k9 => ?_) (fun h s9 k9 => sq_nil (sq_nil (.inl ⟨rfl, ⟨_, _, (F8.kp k9).sub ⟨by rfl, by rfl, by rfl, by rfl, by rfl, trivial⟩, R8.kp k9, by rw [lout_len]; exact hrl, ?_⟩, k38.trans (KM.of_kp k9)⟩)))
    · rw [if_pos (of_decide_eq_true h)] at hst
      refine sq_ret (ev_bin (em (by rfl) (F8.kp k9)) ev_int op_add_int) (F8.kp k9).tk fun v s'' rr q => .inr ⟨v, rfl, v, rfl, by rw [hst]; exact rr, ?_⟩
      refine kk.km hr0 (km.trans (k38.trans (KM.of_kp (k9.trans q)))) ((F8.kp k9).kp q).ns'
    · rw [if_neg (of_decide_eq_false h)] at hst
      exact hst
  · intro s' ⟨row, res, Fi, Ri, hrl, hinv⟩ km
    have hd : lall a mc b 0 (lrow a.length) 0 = res := by rw [hinv, List.drop_length]; rfl
    rw [hd]
    exact sq_ret (Fi.ev (by rfl) K.F K.result (by kernel_rfl)) Fi.tk fun v s'' rr q => ⟨v, rfl, rr, kk.km hr0 (km.trans (KM.of_kp q)) (Fi.kp q).ns'⟩
end T55

end
section
open PySem PySem.W PyProof.Rows PySem.Calls
namespace T55
set_option maxRecDepth 100000
set_option linter.unusedVariables false
variable {w : World} {A : Around} {env : Env} {h₁ : Heap} {s : Shared} {E : Value → Shared → Prop}
theorem lmain_fin (a b : List Nat) (mc : Int) : lmain a b mc = if b.length < a.length then lfin b a mc else lfin a b mc := by
  unfold lmain
  by_cases h : b.length < a.length
  · rw [if_pos h, if_pos h]; rfl
  · rw [if_neg h, if_neg h]; rfl
theorem lend_main (a b : List Nat) (mc : Int) (ha : a.length ≤ 40) (hb : b.length ≤ 40) (h : ¬ (a = [] ∨ b = [])) : lend a b mc = lmain a b mc := by
  unfold lend
  rw [if_neg h, if_neg (by omega)]
theorem lev_tail {a b : List Nat} {mc : Int} (K : KL env) (ha : a.length ≤ 40) (hb : b.length ≤ 40) (hl : ∀ c, c ∈ a ∨ c ∈ b → (Txt.lower (tx [c])).length ≤ 1000) (hm : -1000000 ≤ mc ∧ mc ≤ 1000000) (hz : (HZ w.params).get? env.locals = none) (X : Ext (HZ w.params) s.heap) (O : Ok A 1)
    (F : T55.Fr env [("b", .str (tx b)), ("a", .str (tx a)), ("max_cost", .int mc)] s) :
    Sq w A env (List.drop 9 (bodyOf 5)) (RQ env.locals s (.int (lend a b mc))) E s := by
  conv in (List.drop 9 (bodyOf 5)) => whnf
  have ea : ∀ {ρ : List (Str × PV)} {x : Str} {s : Shared} {p : Pos}, ρ.lookup ("a" : Str) = some (PV.str x) → Fr env ρ s → EvP w A env s.heap (.Name "a" p) (.str x) := fun h F => F.ev h K.F K.a (by kernel_rfl)
  have eb : ∀ {ρ : List (Str × PV)} {x : Str} {s : Shared} {p : Pos}, ρ.lookup ("b" : Str) = some (PV.str x) → Fr env ρ s → EvP w A env s.heap (.Name "b" p) (.str x) := fun h F => F.ev h K.F K.bb (by kernel_rfl)
  have la : ∀ {s' : Shared} {p1 p2 p3 : Pos}, Kp s s' → EvP w A env s'.heap (.Call (.Name "len" p1) [.Name "a" p2] [] p3) (.int a.length) := fun k => ev_lenS (K.ge (X.trans k.ext)) K.len (ea (by rfl) (F.kp k)) (by omega)
  have lb : ∀ {s' : Shared} {p1 p2 p3 : Pos}, Kp s s' → EvP w A env s'.heap (.Call (.Name "len" p1) [.Name "b" p2] [] p3) (.int b.length) := fun k => ev_lenS (K.ge (X.trans k.ext)) K.len (eb (by rfl) (F.kp k)) (by omega)
  refine sq_if (ts_or (ts_not (ts_txt (ea (by rfl) F) (by omega))) (fun _ => ts_not (ts_txt (eb (by rfl) F) (by omega)))) F.tk (fun h s1 k1 => ?_) (fun h s1 k1 => ?_)
  · have he : lend a b mc = 2 * ((a.length : Int) + b.length) := by
      unfold lend
      rw [if_pos]
      · omega
      · simp only [Bool.or_eq_true, Bool.not_eq_true', decide_eq_false_iff_not, Nat.not_lt, Nat.le_zero, List.length_eq_zero_iff] at h
        exact h
    rw [he]
    refine sq_ret (ev_bin (K.gmove (X.trans k1.ext)) (ev_bin (la k1) (lb k1) op_add_int) (op_mul_int (IntMulOk.of_left (by decide)))) (F.kp k1).tk fun v s'' r q => ⟨v, rfl, r, F.tk' (k1.trans q)⟩
  · refine sq_nil ?_
    have hn : ¬ (a = [] ∨ b = []) := by
      simp only [Bool.or_eq_false_iff, Bool.not_eq_false', decide_eq_true_eq, List.length_pos_iff] at h
      exact fun x => x.elim h.1 h.2
    rw [lend_main a b mc ha hb hn, lmain_fin]
    have F1 := F.kp k1
    refine sq_if (b := decide ((40 : Int) < a.length) || decide ((40 : Int) < b.length)) (ts_or (ts_cmp (la k1) (K.gmaxs (X.trans k1.ext)) cm_gt_int) (fun _ => ts_cmp (lb k1) (K.gmaxs (X.trans k1.ext)) cm_gt_int)) F1.tk (fun h' s2 k2 => ?_) (fun h' s2 k2 => sq_nil ?_)
    · simp only [Bool.or_eq_true, decide_eq_true_eq] at h'
      omega
    have F2 := F1.kp k2
    have k12 := k1.trans k2
    refine sq_if (b := decide ((b.length : Int) < a.length)) (ts_cmp (lb k12) (la k12) cm_lt_int) F2.tk (fun h' s3 k3 => ?_) (fun h' s3 k3 => sq_nil ?_)
    · have h' := of_decide_eq_true h'
      rw [if_pos (by omega)]
      refine sq_tup2 O.handled (F2.kp k3) ((eb (by rfl) (F2.kp k3)).imm trivial) ((ea (by rfl) (F2.kp k3)).imm trivial) K.a K.bb K.F (fun s4 F4 t4 => sq_nil ?_) (by kernel_rfl) (by obtain ⟨P, L, e⟩ := K.eq; rw [e]; kernel_rfl)
      have kk : TK env.locals s s4 := TK.kp_left (k12.trans k3) t4
      refine RQ.seq kk ?_
      exact sq_eq (ss' := List.drop 12 (bodyOf 5)) (by rfl) (lev_fin K hb ha (fun c hc => hl c hc.symm) hm hz (kk.ext hz X) O (F4.sub ⟨by rfl, by rfl, by rfl, trivial⟩))
    · have h' := of_decide_eq_false h'
      rw [if_neg (by omega)]
      have kk : TK env.locals s s3 := F.tk' (k12.trans k3)
      refine RQ.seq kk ?_
      exact sq_eq (ss' := List.drop 12 (bodyOf 5)) (by rfl) (lev_fin K ha hb hl hm hz (kk.ext hz X) O (F2.kp k3))
end T55

end
section
open PySem PySem.W PyProof.Rows PySem.Calls
namespace T55
set_option maxRecDepth 100000
set_option linter.unusedVariables false
variable {w : World} {A : Around} {env : Env} {h₁ : Heap} {s : Shared} {E : Value → Shared → Prop}
theorem lev_second {a b : List Nat} {mc : Int} (K : KL env) (ha : a.length ≤ 40) (hb : b.length ≤ 40) (hl : ∀ c, c ∈ a ∨ c ∈ b → (Txt.lower (tx [c])).length ≤ 1000) (hm : -1000000 ≤ mc ∧ mc ≤ 1000000) (hz : (HZ w.params).get? env.locals = none) (X : Ext (HZ w.params) s.heap) (O : Ok A 1)
    (F : T55.Fr env [("b", .str (tx b)), ("a", .str (tx a)), ("max_cost", .int mc)] s) :
    Sq w A env (List.drop 5 (bodyOf 5)) (RQ env.locals s (.int (lmid a b mc))) E s := by
  conv in (List.drop 5 (bodyOf 5)) => whnf
  refine sq_assign F (EvP.imm ev_int trivial) K.post K.F (fun s2 F2 k2 => ?_)
  have lle := lpre_le a.reverse b.reverse
  simp only [List.length_reverse] at lle
  refine sq_while (fun m s' => ∃ i : Nat, i ≤ lpre a.reverse b.reverse ∧ m = lpre a.reverse b.reverse - i ∧ Fr env [("post", .int (-(i : Int))), ("b", .str (tx b)), ("a", .str (tx a)), ("max_cost", .int mc)] s' ∧ TK env.locals s s') (lpre a.reverse b.reverse) ⟨0, Nat.zero_le _, rfl, F2, k2⟩ (fun m s3 E3 hI => ?_)
  obtain ⟨i, hi, rfl, F3, k3⟩ := hI
  have sa := slice_post a i (by omega)
  have sb := slice_post b i (by omega)
  have ea : ∀ {ρ : List (Str × PV)} {x : Str} {s : Shared} {p : Pos}, ρ.lookup ("a" : Str) = some (PV.str x) → Fr env ρ s → EvP w A env s.heap (.Name "a" p) (.str x) := fun h F => F.ev h K.F K.a (by kernel_rfl)
  have eb : ∀ {ρ : List (Str × PV)} {x : Str} {s : Shared} {p : Pos}, ρ.lookup ("b" : Str) = some (PV.str x) → Fr env ρ s → EvP w A env s.heap (.Name "b" p) (.str x) := fun h F => F.ev h K.F K.bb (by kernel_rfl)
  have ep : ∀ {p : Pos}, EvP w A env s3.heap (.Name "post" p) (.int (-(i : Int))) := F3.ev (by rfl) K.F K.post (by kernel_rfl)
  have ta : ∀ {p1 p2 p3 p4 p5 p6 : Pos} {k0 : Nat}, TsP w A env s3.heap (.Subscript (.Name "a" p1) (.Slice none (some (.BoolOp .Or [.Name "post" p2, .Constant .none k0 p5] p6)) none p3) p4) (decide (i < a.length)) := by
    intro p1 p2 p3 p4 p5 p6 k0
    have e : decide (i < a.length) = decide (0 < (a.take (a.length - i)).length) := by rw [List.length_take]; congr 1; rw [eq_iff_iff]; omega
    rw [e]
    exact ts_txt (sa ▸ ev_slice_str (ea (by rfl) F3) part_none (part_or ep) (by rw [tx_len]; unfold sizeLine; omega)) (by rw [List.length_take]; omega)
  have tb : ∀ {p1 p2 p3 p4 p5 p6 : Pos} {k0 : Nat}, TsP w A env s3.heap (.Subscript (.Name "b" p1) (.Slice none (some (.BoolOp .Or [.Name "post" p2, .Constant .none k0 p5] p6)) none p3) p4) (decide (i < b.length)) := by
    intro p1 p2 p3 p4 p5 p6 k0
    have e : decide (i < b.length) = decide (0 < (b.take (b.length - i)).length) := by rw [List.length_take]; congr 1; rw [eq_iff_iff]; omega
    rw [e]
    exact ts_txt (sb ▸ ev_slice_str (eb (by rfl) F3) part_none (part_or ep) (by rw [tx_len]; unfold sizeLine; omega)) (by rw [List.length_take]; omega)
  refine ⟨F3.tk, _, ts_and3 (z := decide (a.getD (a.length - 1 - i) 0 = b.getD (b.length - 1 - i) 0)) ta (fun _ => tb) (fun h1 h2 => ?_), fun h => ?_, fun h => ?_⟩
  · have h1 := of_decide_eq_true h1
    have h2 := of_decide_eq_true h2
    have ia := item_at a (-(i : Int) - 1) (a.length - 1 - i) (.inr ⟨by omega, by omega⟩) (by omega)
    have ib := item_at b (-(i : Int) - 1) (b.length - 1 - i) (.inr ⟨by omega, by omega⟩) (by omega)
    have ez : (Txt.item (tx a) (-(i : Int) - 1) == Txt.item (tx b) (-(i : Int) - 1)) = decide (a.getD (a.length - 1 - i) 0 = b.getD (b.length - 1 - i) 0) := by rw [ia, ib, Bool.eq_iff_iff]; simp [tx]
    rw [← ez]
    exact ts_cmp (ev_neg_item (ea (by rfl) F3) (ev_bin ep ev_int op_sub_int) (by rw [tx_len]; omega) (by rw [tx_len]; omega) (by rw [tx_len]; omega)) (ev_neg_item (eb (by rfl) F3) (ev_bin ep ev_int op_sub_int) (by rw [tx_len]; omega) (by rw [tx_len]; omega) (by rw [tx_len]; omega)) cm_eq_str
  · simp only [Bool.and_eq_true, decide_eq_true_eq] at h
    obtain ⟨⟨h1, h2⟩, h3⟩ := h
    have hlt : i < lpre a.reverse b.reverse := by
      rcases Nat.lt_or_ge i (lpre a.reverse b.reverse) with h | h
      · exact h
      · have : i = lpre a.reverse b.reverse := by omega
        subst this
        exact absurd h3 (lsuf_stop a b h1 h2)
    intro s4 k4
    have en : -(i : Int) - 1 = -((i + 1 : Nat) : Int) := by omega
    refine sq_aug (F3.kp k4) (by rfl) ev_int op_isub trivial K.post K.F (fun s5 F5 k5 => sq_nil ⟨rfl, lpre a.reverse b.reverse - (i + 1), by omega, i + 1, hlt, rfl, ?_, k3.trans (TK.kp_left k4 k5)⟩)
    rw [en] at F5
    exact F5.sub ⟨by rfl, by rfl, by rfl, by rfl, trivial⟩
  · have hi' : i = lpre a.reverse b.reverse := by
      rcases Nat.lt_or_ge i (lpre a.reverse b.reverse) with hlt | h'
      · have := lsuf_eq a b i hlt
        rw [decide_eq_true (show i < a.length by omega), decide_eq_true (show i < b.length by omega), decide_eq_true this] at h
        cases h
      · omega
    intro s4 k4
    have F4 := F3.kp k4
    rw [hi'] at F4 sa sb
    have hq : lmid a b mc = lend (a.take (a.length - lpre a.reverse b.reverse)) (b.take (b.length - lpre a.reverse b.reverse)) mc := rfl
    rw [hq]
    generalize hp : lpre a.reverse b.reverse = p at *
    refine sq_assign (d := .str (tx (a.take (a.length - p)))) F4 (EvP.imm (sa ▸ ev_slice_str (ea (by rfl) F4) part_none (part_or (F4.ev (by rfl) K.F K.post (by kernel_rfl))) (by rw [tx_len]; unfold sizeLine; omega)) trivial) K.a K.F (fun s5 F5 k5 => ?_)
    refine sq_assign (d := .str (tx (b.take (b.length - p)))) F5 (EvP.imm (sb ▸ ev_slice_str (eb (by rfl) F5) part_none (part_or (F5.ev (by rfl) K.F K.post (by kernel_rfl))) (by rw [tx_len]; unfold sizeLine; omega)) trivial) K.bb K.F (fun s6 F6 k6 => ?_)
    have kk : TK env.locals s s6 := k3.trans (TK.kp_left k4 (k5.trans k6))
    refine RQ.seq kk ?_
    refine sq_eq (ss' := List.drop 9 (bodyOf 5)) (by rfl) (lev_tail K (by rw [List.length_take]; omega) (by rw [List.length_take]; omega) (fun c hc => hl c (hc.imp List.mem_of_mem_take List.mem_of_mem_take)) hm hz (kk.ext hz X) O (F6.sub ⟨by rfl, by rfl, by rfl, trivial⟩))
end T55

end
section
open PySem PySem.W PyProof.Rows PySem.Calls
namespace T55
set_option maxRecDepth 100000
set_option linter.unusedVariables false
variable {w : World} {A : Around} {env : Env} {h₁ : Heap}
theorem cl_lev {a b : List Nat} {mc : Int} (ha : a.length ≤ 40) (hb : b.length ≤ 40) (hl : ∀ c, c ∈ a ∨ c ∈ b → (Txt.lower (tx [c])).length ≤ 1000) (hm : -1000000 ≤ mc ∧ mc ≤ 1000000) (X : Ext (HZ w.params) h₁) (O : Ok A 2) :
    ClP w A h₁ (.ref 28) [.str (tx a), .str (tx b), .int mc] (.int (lev a b mc)) := by
  refine cl_def (fn_lev w.params) X O (body := bodyOf 5) (names := ["a", "b", "max_cost"]) (by kernel_rfl) (by decide) rfl (fun vs h => by obtain ⟨u, v, z, rfl⟩ := vlen3 h; kernel_rfl) (by kernel_rfl) (by kernel_rfl) (by kernel_rfl) (by kernel_rfl) (by kernel_rfl) fun L A' s' E' O' X' hL F => ?_
  conv in (bodyOf 5) => whnf
  have kF : (callEnv (fdOf (oC28 w.params)) L 28).scope.kind = .function := by kernel_rfl
  have ka : (callEnv (fdOf (oC28 w.params)) L 28).kindOf "a" = some .local := by kernel_rfl
  have kb : (callEnv (fdOf (oC28 w.params)) L 28).kindOf "b" = some .local := by kernel_rfl
  have kpre : (callEnv (fdOf (oC28 w.params)) L 28).kindOf "pre" = some .local := by kernel_rfl
  have kpost : (callEnv (fdOf (oC28 w.params)) L 28).kindOf "post" = some .local := by kernel_rfl
  have krow : (callEnv (fdOf (oC28 w.params)) L 28).kindOf "row" = some .local := by kernel_rfl
  have hEK := kl w.params L
  generalize hE : callEnv (fdOf (oC28 w.params)) L 28 = env at *
  have eL : env.locals = L := by rw [← hE]; rfl
  have ea : ∀ {ρ : List (Str × PV)} {x : Str} {s : Shared} {p : Pos}, ρ.lookup ("a" : Str) = some (PV.str x) → Fr env ρ s → EvP w A' env s.heap (.Name "a" p) (.str x) := fun h F => F.ev h kF ka (by kernel_rfl)
  have eb : ∀ {ρ : List (Str × PV)} {x : Str} {s : Shared} {p : Pos}, ρ.lookup ("b" : Str) = some (PV.str x) → Fr env ρ s → EvP w A' env s.heap (.Name "b" p) (.str x) := fun h F => F.ev h kF kb (by kernel_rfl)
  have txi : ((tx a == tx b) = true) = (a = b) := by simp [tx]
  refine sq_if (ts_cmp (ea (by rfl) F) (eb (by rfl) F) cm_eq_str) F.tk (fun h s1 k1 => ?_) (fun h s1 k1 => ?_)
  · refine sq_ret ev_int (F.kp k1).tk fun v s'' r q => ⟨v, rfl, ?_, eL ▸ F.tk' (k1.trans q)⟩
    rw [txi] at h
    unfold lev; rw [if_pos h]; exact r
  refine sq_nil ?_
  have hab : ¬ a = b := fun e => by rw [← txi, h] at e; cases e
  have F1 := F.kp k1
  refine sq_assign F1 (EvP.imm ev_int trivial) kpre kF (fun s2 F2 k2 => ?_)
  have lle := lpre_le a b
  refine sq_while (fun m s => ∃ i : Nat, i ≤ lpre a b ∧ m = lpre a b - i ∧ Fr env [("pre", .int (i : Int)), ("a", .str (tx a)), ("b", .str (tx b)), ("max_cost", .int mc)] s ∧ TK env.locals s' s) (lpre a b) ⟨0, Nat.zero_le _, rfl, F2, TK.kp_left k1 k2⟩ (fun m s3 E3 hI => ?_)
  obtain ⟨i, hi, rfl, F3, k3⟩ := hI
  have sa := slice_from a i (by omega)
  have sb := slice_from b i (by omega)
  have ep : ∀ {p : Pos}, EvP w A' env s3.heap (.Name "pre" p) (.int (i : Int)) := F3.ev (by rfl) kF kpre (by kernel_rfl)
  have za : ((((tx (a.drop i)).length : Nat) : Int) != 0) = decide (i < a.length) := by rw [tx_len, List.length_drop, Bool.eq_iff_iff]; simp; omega
  have zb : ((((tx (b.drop i)).length : Nat) : Int) != 0) = decide (i < b.length) := by rw [tx_len, List.length_drop, Bool.eq_iff_iff]; simp; omega
  have ta : ∀ {p1 p2 p3 p4 : Pos}, TsP w A' env s3.heap (.Subscript (.Name "a" p1) (.Slice (some (.Name "pre" p2)) none none p3) p4) (decide (i < a.length)) := by
    intro p1 p2 p3 p4
    rw [← za, ← sa]
    exact ts_str (ev_slice_str (ea (by rfl) F3) (part_some ep) part_none (by rw [tx_len]; unfold sizeLine; omega)) (by rw [sa, tx_len, List.length_drop]; omega)
  have tb : ∀ {p1 p2 p3 p4 : Pos}, TsP w A' env s3.heap (.Subscript (.Name "b" p1) (.Slice (some (.Name "pre" p2)) none none p3) p4) (decide (i < b.length)) := by
    intro p1 p2 p3 p4
    rw [← zb, ← sb]
    exact ts_str (ev_slice_str (eb (by rfl) F3) (part_some ep) part_none (by rw [tx_len]; unfold sizeLine; omega)) (by rw [sb, tx_len, List.length_drop]; omega)
  refine ⟨F3.tk, _, ts_and3 (z := decide (a.getD i 0 = b.getD i 0)) ta (fun _ => tb) (fun h1 h2 => ?_), fun h => ?_, fun h => ?_⟩
  · have h1 := of_decide_eq_true h1
    have h2 := of_decide_eq_true h2
    have ia := item_at a (i : Int) i (.inl ⟨by omega, rfl⟩) h1
    have ib := item_at b (i : Int) i (.inl ⟨by omega, rfl⟩) h2
    have ez : (Txt.item (tx a) (i : Int) == Txt.item (tx b) (i : Int)) = decide (a.getD i 0 = b.getD i 0) := by rw [ia, ib, Bool.eq_iff_iff]; simp [tx]
    rw [← ez]
    exact ts_cmp (ev_item_str (ea (by rfl) F3) ep (by unfold fitsSsize; rw [decide_eq_false (by omega), decide_eq_false (by omega)]; rfl) (by omega) (by rw [tx_len]; omega)) (ev_item_str (eb (by rfl) F3) ep (by unfold fitsSsize; rw [decide_eq_false (by omega), decide_eq_false (by omega)]; rfl) (by omega) (by rw [tx_len]; omega)) cm_eq_str
  · simp only [Bool.and_eq_true, decide_eq_true_eq] at h
    obtain ⟨⟨h1, h2⟩, h3⟩ := h
    have hlt : i < lpre a b := by
      rcases Nat.lt_or_ge i (lpre a b) with h | h
      · exact h
      · have : i = lpre a b := by omega
        subst this
        exact absurd h3 (lpre_stop a b h1 h2)
    intro s4 k4
    refine sq_aug (F3.kp k4) (by rfl) ev_int op_iadd trivial kpre kF (fun s5 F5 k5 => sq_nil ⟨rfl, lpre a b - (i + 1), by omega, i + 1, hlt, rfl, ?_, ?_⟩)
    · exact F5.sub ⟨by rfl, by rfl, by rfl, by rfl, trivial⟩
    · exact k3.trans (TK.kp_left k4 k5)
  · have hi' : i = lpre a b := by
      rcases Nat.lt_or_ge i (lpre a b) with hlt | h'
      · have := lpre_eq a b i hlt
        rw [decide_eq_true (show i < a.length by omega), decide_eq_true (show i < b.length by omega), decide_eq_true this] at h
        cases h
      · omega
    intro s4 k4
    subst hi'
    have F4 := F3.kp k4
    generalize hp : lpre a b = p at *
    refine sq_assign (d := .str (tx (a.drop p))) F4 (EvP.imm (slice_from a p lle.1 ▸ ev_slice_str (ea (by rfl) F4) (part_some (F4.ev (by rfl) kF kpre (by kernel_rfl))) part_none (by rw [tx_len]; unfold sizeLine; omega)) trivial) ka kF (fun s5 F5 k5 => ?_)
    refine sq_assign (d := .str (tx (b.drop p))) F5 (EvP.imm (slice_from b p lle.2 ▸ ev_slice_str (eb (by rfl) F5) (part_some (F5.ev (by rfl) kF kpre (by kernel_rfl))) part_none (by rw [tx_len]; unfold sizeLine; omega)) trivial) kb kF (fun s6 F6 k6 => ?_)
    have k36 : TK env.locals s' s6 := k3.trans (TK.kp_left k4 (k5.trans k6))
    have hlev : lev a b mc = lmid (a.drop p) (b.drop p) mc := by rw [← hp]; exact lev_mid a b mc hab
    rw [hlev]
    have hz : (HZ w.params).get? env.locals = none := Nw.of X (eL ▸ hL)
    have key := lev_second (w := w) (A := A') (s := s6) (E := E') (a := a.drop p) (b := b.drop p) (mc := mc) hEK (by rw [List.length_drop]; omega) (by rw [List.length_drop]; omega) (fun c hc => hl c (hc.imp List.mem_of_mem_drop List.mem_of_mem_drop)) hm hz (k36.ext hz (X.trans X')) O' (F6.sub ⟨by rfl, by rfl, by rfl, trivial⟩)
    rw [← eL]
    exact sq_eq (ss' := List.drop 5 (bodyOf 5)) (by rfl) (RQ.seq k36 key)
end T55

end
section
open PySem PySem.W PyProof.Rows PySem.Calls
namespace T55
set_option maxRecDepth 100000
set_option linter.unusedVariables false
variable {w : World} {A : Around} {env : Env} {h₁ : Heap} {s : Shared} {M : List Addr} {ρ : List (Str × PV)}

/-- names, some of them cells, bound to data; M: what changes -/
structure FC (env : Env) (M : List Addr) (ρ : List (Str × PV)) (s : Shared) : Prop where
  ns : ∃ m, s.heap.Ns env.locals m ∧ ∀ x d, ρ.lookup x = some d → env.kindOf x = some .local → ∃ v, m x = some v ∧ RepP (fun b => b ∉ M) s.heap d v
  cell : ∀ x d, ρ.lookup x = some d → env.kindOf x = some .cell → ∃ c v, env.cells.lookup x = some c ∧ s.heap.IsCell c (some v) ∧ RepP (fun b => b ∉ M) s.heap d v
  live : ∀ x c, env.cells.lookup x = some c → (∃ u, s.heap.IsCell c u) ∧ c ∈ M ∧ c ≠ env.locals
  apart : env.cells.Pairwise fun x y => x.2 ≠ y.2
  inM : env.locals ∈ M
  all : ∀ b ∈ M, (s.heap.get? b).isSome = true
  tk : 1 ≤ s.toks
noncomputable def Kl (env : Env) (x : Str) : Prop := env.kindOf x = some .local ∨ (env.kindOf x = some .cell ∧ (env.cells.lookup x).isSome = true)
theorem FC.ev (F : FC env M ρ s) {x : Str} {pos : Pos} {d : PV} (hx : ρ.lookup x = some d) (hk : env.scope.kind = .function) (hl : Kl env x) (hd : (x == ("__debug__" : Str)) = false) :
    EvP w A env s.heap (.Name x pos) d := by
  rcases hl with hl | ⟨hl, _⟩
  · obtain ⟨m, hn, h⟩ := F.ns
    obtain ⟨v, hv, r⟩ := h x d hx hl
    exact ev_local hn hv r.rep hk hl hd
  · obtain ⟨c, v, hc, hi, r⟩ := F.cell x d hx hl
    exact ev_cell hi r.rep hk hl hc hd
theorem FC.kp {s' : Shared} (F : FC env M ρ s) (k : Kp s s') : FC env M ρ s' := by
  refine ⟨?_, fun x d hx hl => ?_, fun x c hc => ?_, F.apart, F.inM, fun b hb => ?_, Nat.le_trans F.tk k.toks⟩
  · obtain ⟨m, hn, h⟩ := F.ns
    exact ⟨m, hn.at fun o e => k.ext _ _ e, fun x d hx hl => by obtain ⟨v, hv, r⟩ := h x d hx hl; exact ⟨v, hv, r.imp (fun _ y => y) fun b o _ e => k.ext _ _ e⟩⟩
  · obtain ⟨c, v, hc, hi, r⟩ := F.cell x d hx hl
    exact ⟨c, v, hc, hi.keeps fun b o e => k.ext _ _ e, r.imp (fun _ y => y) fun b o _ e => k.ext _ _ e⟩
  · obtain ⟨⟨u, hu⟩, h⟩ := F.live x c hc
    exact ⟨⟨u, hu.keeps fun b o e => k.ext _ _ e⟩, h⟩
  · obtain ⟨o, ho⟩ := Option.isSome_iff_exists.mp (F.all b hb)
    rw [k.ext _ _ ho]; rfl
theorem FC.sub {ρ' : List (Str × PV)} (F : FC env M ρ s) (h : SubB ρ ρ') : FC env M ρ' s := by
  refine ⟨?_, fun x d hx hl => F.cell x d (h.look x d hx) hl, F.live, F.apart, F.inM, F.all, F.tk⟩
  obtain ⟨m, hn, hm⟩ := F.ns
  exact ⟨m, hn, fun x d hx hl => hm x d (h.look x d hx) hl⟩
theorem FC.nM (F : FC env M ρ s) : ∀ b, Nw s.heap b → b ∉ M := fun b hb hm => by
  have := F.all b hm
  rw [show s.heap.get? b = none from hb] at this; cases this
/-- stable where the names stand: all data immediate, or all their addresses kept -/
theorem FC.stab {h' : Heap} {tk : Nat} (F : FC env M ρ s) (hk : ∀ b o, (b ∈ M ∨ (∃ x d, ρ.lookup x = some d ∧ ¬ Imm d)) → s.heap.get? b = some o → h'.get? b = some o) (le : s.toks ≤ tk) : FC env M ρ { s with heap := h', toks := tk } := by
  have rep : ∀ x d v, ρ.lookup x = some d → RepP (fun b => b ∉ M) s.heap d v → RepP (fun b => b ∉ M) h' d v := fun x d v hx r => by
    by_cases hi : Imm d
    · exact RepP.imm hi r.rep
    · exact r.imp (fun _ y => y) fun b o _ e => hk b o (.inr ⟨x, d, hx, hi⟩) e
  refine ⟨?_, fun x d hx hl => ?_, fun x c hc => ?_, F.apart, F.inM, fun b hb => ?_, Nat.le_trans F.tk le⟩
  · obtain ⟨m, hn, h⟩ := F.ns
    exact ⟨m, hn.at fun o e => hk _ _ (.inl F.inM) e, fun x d hx hl => by obtain ⟨v, hv, r⟩ := h x d hx hl; exact ⟨v, hv, rep x d v hx r⟩⟩
  · obtain ⟨c, v, hc, ⟨o, ho, hd⟩, r⟩ := F.cell x d hx hl
    exact ⟨c, v, hc, ⟨o, hk _ _ (.inl (F.live x c hc).2.1) ho, hd⟩, rep x d v hx r⟩
  · obtain ⟨⟨u, o, ho, hd⟩, h⟩ := F.live x c hc
    exact ⟨⟨u, o, hk _ _ (.inl h.1) ho, hd⟩, h⟩
  · obtain ⟨o, ho⟩ := Option.isSome_iff_exists.mp (F.all b hb)
    show (h'.get? b).isSome = true
    rw [hk _ _ (.inl hb) ho]; rfl
/-- the store of a name -/
theorem FC.set2 {x : Str} {v : Value} {d : PV} {Q : Unit → Shared → Prop} {E : Value → Shared → Prop} (F : FC env M ρ s) (r : RepP (fun b => b ∉ M) s.heap d v) (hk : env.scope.kind = .function) (hl : Kl env x)
    (hq : ∀ s', FC env M ((x, d) :: ρ) s' → KM M s s' → (∀ b o, b ≠ env.locals → (∀ y, env.cells.lookup y ≠ some b) → s.heap.get? b = some o → s'.heap.get? b = some o) → Q () s') : wpAny (model PW w) A (storeName env x v) Q E s := by
  rcases hl with hl | ⟨hl, hc⟩
  · obtain ⟨m, hns, hm⟩ := F.ns
    refine wpAny_storeName_local hl hns (fun h' hn sb => ?_) (by rw [hk]; rfl)
    have out : ∀ b, b ∉ M → b ≠ env.locals := fun b hb e => hb (e ▸ F.inM)
    refine hq _ ⟨⟨_, hn, fun y dy hy hly => ?_⟩, fun y dy hy hly => ?_, fun y c hc => ?_, F.apart, F.inM, fun b hb => ?_, Nat.le_succ_of_le F.tk⟩ ⟨h', _, rfl, fun b o hb e => sb.extBut b o (out b hb) e, fun b hb e => ?_, Nat.le_succ _⟩ (fun b o h1 h2 e => sb.extBut b o h1 e)
    · by_cases hyx : y = x
      · subst hyx
        simp at hy; subst hy
        exact ⟨v, by simp, r.imp (fun _ z => z) fun b o hb e => sb.extBut b o (out b hb) e⟩
      · have : (y == x) = false := by simpa using hyx
        rw [List.lookup_cons, this] at hy
        obtain ⟨u, hu, ru⟩ := hm y dy hy hly
        exact ⟨u, by simp [hyx, hu], ru.imp (fun _ z => z) fun b o hb e => sb.extBut b o (out b hb) e⟩
    · by_cases hyx : y = x
      · subst hyx; rw [hl] at hly; cases hly
      · have : (y == x) = false := by simpa using hyx
        rw [List.lookup_cons, this] at hy
        obtain ⟨c, u, hc, hi, ru⟩ := F.cell y dy hy hly
        exact ⟨c, u, hc, hi.sameBut sb (F.live y c hc).2.2, ru.imp (fun _ z => z) fun b o hb e => sb.extBut b o (out b hb) e⟩
    · obtain ⟨⟨u, hu⟩, h⟩ := F.live y c hc
      exact ⟨⟨u, hu.sameBut sb h.2⟩, h⟩
    all_goals
      by_cases hbl : b = env.locals
      · subst hbl
        obtain ⟨o, es, ep, ho, _⟩ := hn
        first
          | (rw [ho]; rfl)
          | (show (h'.get? env.locals).isSome = true; rw [ho]; rfl)
      · obtain ⟨o, ho⟩ := Option.isSome_iff_exists.mp (F.all b hb)
        show (h'.get? b).isSome = true
        rw [sb.extBut b o hbl ho]; rfl
  · obtain ⟨c, hc⟩ := Option.isSome_iff_exists.mp hc
    obtain ⟨⟨u, hu⟩, hcM, hcL⟩ := F.live x c hc
    refine wpAny_storeName_cell hk hl hc hu fun h' hc' sb => ?_
    have out : ∀ b, b ∉ M → b ≠ c := fun b hb e => hb (e ▸ hcM)
    obtain ⟨m, hns, hm⟩ := F.ns
    refine hq _ ⟨⟨m, hns.sameBut sb (Ne.symm hcL), fun y dy hy hly => ?_⟩, fun y dy hy hly => ?_, fun y c' hc'' => ?_, F.apart, F.inM, fun b hb => ?_, F.tk⟩ ⟨h', _, rfl, fun b o hb e => sb.extBut b o (out b hb) e, fun b hb e => ?_, Nat.le_refl _⟩ (fun b o h1 h2 e => sb.extBut b o (fun q => h2 x (q ▸ hc)) e)
    · by_cases hyx : y = x
      · subst hyx; rw [hl] at hly; cases hly
      · have : (y == x) = false := by simpa using hyx
        rw [List.lookup_cons, this] at hy
        obtain ⟨u, hu, ru⟩ := hm y dy hy hly
        exact ⟨u, hu, ru.imp (fun _ z => z) fun b o hb e => sb.extBut b o (out b hb) e⟩
    · by_cases hyx : y = x
      · subst hyx
        simp at hy; subst hy
        exact ⟨c, v, hc, hc', r.imp (fun _ z => z) fun b o hb e => sb.extBut b o (out b hb) e⟩
      · have : (y == x) = false := by simpa using hyx
        rw [List.lookup_cons, this] at hy
        obtain ⟨c', u, hc'', hi, ru⟩ := F.cell y dy hy hly
        exact ⟨c', u, hc'', hi.sameBut sb fun e => hyx (name_of_addr F.apart (mem_of_lookup hc'') (e ▸ mem_of_lookup hc)), ru.imp (fun _ z => z) fun b o hb e => sb.extBut b o (out b hb) e⟩
    · obtain ⟨⟨u', hu'⟩, h⟩ := F.live y c' hc''
      by_cases hcc : c' = c
      · subst hcc; exact ⟨⟨_, hc'⟩, h⟩
      · exact ⟨⟨u', hu'.sameBut sb hcc⟩, h⟩
    all_goals
      by_cases hbl : b = c
      · subst hbl
        obtain ⟨o, ho, _⟩ := hc'
        show (h'.get? b).isSome = true
        rw [ho]; rfl
      · obtain ⟨o, ho⟩ := Option.isSome_iff_exists.mp (F.all b hb)
        show (h'.get? b).isSome = true
        rw [sb.extBut b o hbl ho]; rfl
theorem FC.set {x : Str} {v : Value} {d : PV} {Q : Unit → Shared → Prop} {E : Value → Shared → Prop} (F : FC env M ρ s) (r : RepP (fun b => b ∉ M) s.heap d v) (hk : env.scope.kind = .function) (hl : Kl env x)
    (hq : ∀ s', FC env M ((x, d) :: ρ) s' → KM M s s' → Q () s') : wpAny (model PW w) A (storeName env x v) Q E s := F.set2 r hk hl fun s' F' k _ => hq s' F' k
section
variable {E : Value → Shared → Prop} {Q : Flow → Shared → Prop}
theorem sc_assign {x : Str} {p pos : Pos} {e : Expr} {rest : List Stmt} {d : PV} {T : Nat} (F : FC env M ρ s) (h : EvT w A env s.heap T e d) (hT : T ≤ s.toks) (hl : Kl env x) (hk : env.scope.kind = .function)
    (hq : ∀ s', FC env M ((x, d) :: ρ) s' → KM M s s' → Sq w A env rest Q E s')
    (hs : swapsWith e (some (.Name x p)) pos.line env = pure false := by rfl) :
    Sq w A env (.Assign [.Name x p] e pos :: rest) Q E s := by
  refine .mk (wpAny_execs_cons (wpAny_Assign_Name (wp_use (h.run s E (Ext.refl _) hT) fun v s' r q => ?_) hs))
  exact (F.kp q).set (r.imp F.nM fun _ _ _ e => e) hk hl fun s'' F' k' => (hq s'' F' ((KM.of_kp q).trans k')).run
/-- a value may not be one of the names' own objects -/
theorem Rep.fit {k : Addr → Prop} {h : Heap} (hk : ∀ b o, ¬ k b → h.get? b = some o → (∃ a c, o.data = .dict a c) ∨ ∃ u, o.data = .cell u) :
    ∀ {d : PV} {v : Value}, Rep h d v → RepP (fun b => (h.get? b).isSome = true ∧ k b) h d v := by
  have seq : ∀ {a : Addr} {its : Array Value}, h.IsList a its ∨ h.IsTuple a its → (h.get? a).isSome = true ∧ k a := fun {a its} hs => by
    have : ∃ o n, h.get? a = some o ∧ o.data = .seq its n := by
      rcases hs with ⟨o, ho, _, n, hd⟩ | ⟨o, ho, _, n, hd⟩
      · exact ⟨o, n, ho, hd⟩
      · exact ⟨o, n, ho, hd⟩
    obtain ⟨o, n, ho, hd⟩ := this
    refine ⟨by rw [ho]; rfl, Classical.byContradiction fun hn => ?_⟩
    rcases hk a o hn ho with ⟨x, y, e⟩ | ⟨u, e⟩ <;> rw [hd] at e <;> cases e
  intro d v r
  induction d using PV.rec (motive_2 := fun l => ∀ vs, RepL h l vs → RepPL (fun b => (h.get? b).isSome = true ∧ k b) h l vs) generalizing v with
  | none => simpa only [RepP, Rep] using r
  | bool => simpa only [RepP, Rep] using r
  | int => simpa only [RepP, Rep] using r
  | ge => simpa only [RepP, Rep] using r
  | lt => simpa only [RepP, Rep] using r
  | adr => simpa only [RepP, Rep] using r
  | tl =>
    simp only [Rep] at r
    obtain ⟨a, rfl, hl⟩ := r
    exact ⟨a, rfl, seq (.inl hl.isList), hl⟩
  | str => simpa only [RepP, Rep] using r
  | list l ih =>
    simp only [Rep] at r
    obtain ⟨a, vs, rfl, hl, hr⟩ := r
    exact ⟨a, vs, rfl, seq (.inl hl.isList), hl, ih _ hr⟩
  | tup l ih =>
    simp only [Rep] at r
    obtain ⟨a, vs, rfl, hl, hr⟩ := r
    exact ⟨a, vs, rfl, seq (.inr hl), hl, ih _ hr⟩
  | nil => rename_i vs r; simpa only [RepPL, RepL] using r
  | cons p ps ih1 ih2 =>
    rename_i vs r
    simp only [RepL] at r
    obtain ⟨v, q, rfl, h1, h2⟩ := r
    exact ⟨v, q, rfl, ih1 h1, ih2 _ h2⟩
end
end T55

end
section
open PySem PySem.W PyProof.Rows PySem.Calls
namespace T55
set_option maxRecDepth 100000
set_option linter.unusedVariables false
variable {w : World} {A : Around} {env : Env} {h₁ : Heap} {s : Shared} {M : List Addr} {ρ : List (Str × PV)}
theorem FC.weaken {ρ' : List (Str × PV)} (F : FC env M ρ s) (h : ∀ x d, ρ'.lookup x = some d → ρ.lookup x = some d) : FC env M ρ' s := by
  refine ⟨?_, fun x d hx hl => F.cell x d (h x d hx) hl, F.live, F.apart, F.inM, F.all, F.tk⟩
  obtain ⟨m, hn, hm⟩ := F.ns
  exact ⟨m, hn, fun x d hx hl => hm x d (h x d hx) hl⟩
theorem fc_bind {E : Value → Shared → Prop} (f : Str × Value → PUnit → Sem (ForInStep PUnit)) (hf : ∀ n v u, f (n, v) u = (do storeName env n v; pure (.yield ⟨⟩))) (hk : env.scope.kind = .function) :
    ∀ (ns : List Str) (vs : List Value) (ds : List PV) (ρ : List (Str × PV)) (s : Shared) (Q : PUnit → Shared → Prop), FC env M ρ s → (∀ x ∈ ns, Kl env x) → RepPL (fun b => b ∉ M) s.heap ds vs →
      (∀ s', FC env M ((ns.zip ds).reverse ++ ρ) s' → KM M s s' → Q ⟨⟩ s') → wpAny (model PW w) A (forIn (ns.zip vs) ⟨⟩ f) Q E s
  | [], vs, ds, ρ, s, Q, F, _, _, h => by
    rw [List.zip_nil_left, List.forIn_nil]
    exact wpAny_pure (h s (by simpa using F) (KM.of_kp (Kp.refl s)))
  | n :: ns, vs, [], ρ, s, Q, F, _, r, h => by
    simp only [RepPL] at r; subst r
    rw [List.zip_nil_right, List.forIn_nil]
    exact wpAny_pure (h s (by simpa using F) (KM.of_kp (Kp.refl s)))
  | n :: ns, vs, d :: ds, ρ, s, Q, F, hl, r, h => by
    simp only [RepPL] at r
    obtain ⟨v, vs, rfl, r1, r2⟩ := r
    rw [List.zip_cons_cons, List.forIn_cons, hf]
    refine wpAny_bind (wpAny_bind (F.set r1 hk (hl n List.mem_cons_self) fun s' F' k => wpAny_pure (fc_bind f hf hk ns vs ds _ s' Q F' (fun x hx => hl x (List.mem_cons_of_mem _ hx)) (r2.imp (fun _ y => y) fun b o hb e => k.get hb e) fun s'' F'' k' => h s'' ?_ (k.trans k'))))
    simpa using F''
theorem fc_new {scope : Scope} {globals : Addr} {ns : List Str} {vs : List Value} {ds : List PV} {qual : Str} {func : Option Addr} {code : Value} {builtins : Addr} {Q : Env → Shared → Prop} {E : Value → Shared → Prop}
    (hk : scope.kind = .function) (t : 1 ≤ s.toks)
    (hkind : ∀ x ∈ ns, Kl (newEnv scope s.heap.objs.size globals (cellsFrom (s.heap.objs.size + 1) scope.names []) qual func code none builtins) x)
    (hr : RepL s.heap ds vs)
    (hQ : ∀ env, env = newEnv scope s.heap.objs.size globals (cellsFrom (s.heap.objs.size + 1) scope.names []) qual func code none builtins →
      ∀ s', FC env (env.locals :: env.cells.map (·.2)) (ns.zip ds).reverse s' → Kp s s' → (∀ b ∈ env.locals :: env.cells.map (·.2), s.heap.get? b = none) → Q env s') :
    wpAny (model PW w) A (newFunctionEnv scope globals [] (ns.zip vs) qual func code none builtins) Q E s := by
  simp only [newFunctionEnv, Option.isSome_none, Bool.false_eq_true, if_false]
  refine wpAny_bind (wpAny_alloc ?_)
  refine wpAny_bind (wpAny_layCells _ (fun name kind cells => by cases kind == NameKind.cell <;> simp) _ _ _ _ ?_)
  have ok := cellsFrom_ok scope.names (s.heap.push { cls := .type "frame", data := .dict #[] }) (s.heap.objs.size + 1) [] ⟨fun _ _ hm => (nomatch hm), List.Pairwise.nil⟩ (by rw [Heap.size_push]; exact Nat.le_refl _)
  rw [Heap.size_push] at ok
  rw [show ({ s with heap := s.heap.push { cls := .type "frame", data := .dict #[] } } : Shared).heap.objs.size = s.heap.objs.size + 1 from Heap.size_push ..]
  obtain ⟨env, he⟩ : ∃ env, newEnv scope s.heap.objs.size globals (cellsFrom (s.heap.objs.size + 1) scope.names []) qual func code none builtins = env := ⟨_, rfl⟩
  rw [he] at hkind hQ
  have eL : env.locals = s.heap.objs.size := by rw [← he]; rfl
  have eC : env.cells = cellsFrom (s.heap.objs.size + 1) scope.names [] := by rw [← he]; rfl
  have eK : env.scope.kind = .function := by rw [← he]; exact hk
  have x0 : Ext s.heap (pushCells (s.heap.push { cls := .type "frame", data := .dict #[] }) scope.names) := fun b o e => pushCells_keeps _ _ b o (Heap.get?_push_of_some _ e)
  have newM : ∀ b ∈ env.locals :: env.cells.map (·.2), s.heap.get? b = none := fun b hb => by
    rcases List.mem_cons.mp hb with rfl | hb
    · rw [eL]; exact Heap.get?_none_of_le (Nat.le_refl _)
    · obtain ⟨⟨n, c⟩, hm, rfl⟩ := List.mem_map.mp hb
      rw [eC] at hm
      exact Heap.get?_none_of_le (Nat.le_of_succ_le (ok.empty n c hm).2)
  have F0 : FC env (env.locals :: env.cells.map (·.2)) [] { s with heap := pushCells (s.heap.push { cls := .type "frame", data := .dict #[] }) scope.names } := by
    refine ⟨⟨_, eL ▸ (Heap.Ns.new s.heap (.type "frame")).keeps (pushCells_keeps _ _), fun x d hx => (by cases hx)⟩, fun x d hx => (by cases hx), fun x c hc => ?_, eC ▸ ok.apart, List.mem_cons_self, fun b hb => ?_, t⟩
    · have hm := mem_of_lookup hc
      refine ⟨⟨none, ?_⟩, List.mem_cons_of_mem _ (List.mem_map_of_mem (f := (·.2)) hm), ?_⟩
      · rw [eC] at hm; exact (ok.empty x c hm).1
      · rw [eC] at hm; rw [eL]; exact fun e => absurd (ok.empty x c hm).2 (by rw [e]; exact Nat.not_succ_le_self _)
    · rcases List.mem_cons.mp hb with rfl | hb
      · obtain ⟨o, es, ep, ho, _⟩ := (eL ▸ (Heap.Ns.new s.heap (.type "frame")).keeps (pushCells_keeps scope.names _) : Heap.Ns (pushCells (s.heap.push { cls := .type "frame", data := .dict #[] }) scope.names) env.locals _)
        show ((pushCells _ _).get? _).isSome = true
        rw [ho]; rfl
      · obtain ⟨⟨n, c⟩, hm, rfl⟩ := List.mem_map.mp hb
        rw [eC] at hm
        obtain ⟨o, ho, _⟩ := (ok.empty n c hm).1
        show ((pushCells _ _).get? _).isSome = true
        rw [ho]; rfl
  have hr' : RepPL (fun b => b ∉ env.locals :: env.cells.map (·.2)) (pushCells (s.heap.push { cls := .type "frame", data := .dict #[] }) scope.names) ds vs :=
    hr.toP.imp (fun b hb hm => by rw [newM b hm] at hb; cases hb) fun b o _ e => x0 b o e
  have hfin := fc_bind (w := w) (A := A) (E := E) (M := env.locals :: env.cells.map (·.2)) (f := fun x r => (do storeName env x.1 x.2; pure (ForInStep.yield PUnit.unit))) (fun _ _ _ => rfl) eK ns vs ds [] _ (fun _ s' => Q env s') F0 hkind hr' fun s' F' k => by
    obtain ⟨h', tk, rfl, e1, m1, l1⟩ := k
    refine hQ env rfl _ (by simpa using F') ⟨h', tk, rfl, fun b o e => e1 b o (fun hm => by rw [newM b hm] at e; cases e) (x0 b o e), l1⟩ newM
  subst he
  exact wpAny_bind (wpAny_mono hfin (fun _ s' z => wpAny_pure z) fun _ _ e => e)
/-- what a def with cells ends with -/
noncomputable abbrev RC (M : List Addr) (s : Shared) (d : PV) : Flow → Shared → Prop := fun f s'' => ∃ v, f = .ret v ∧ Rep s''.heap d v ∧ KM M s s''
theorem cl_defC {a : Addr} {fd : FuncData} {body : List Stmt} {names : List Str} {ds : List PV} {d : PV} {n : Nat}
    (F : FnAt w.params a fd) (X : Ext (HZ w.params) h₁) (O : Ok A (n + 1)) (hbody : fd.body = .stmts body) (hnd : names.Nodup) (hlen : names.length = ds.length)
    (hbind : ∀ vs : List Value, vs.length = names.length → bindArgs fd ⟨vs, []⟩ = pure (names.zip vs)) (hclo : fd.closure = [])
    (hloc : ∀ L, ∀ x ∈ names, Kl (callEnvC fd L a) x)
    (hco : fd.scope.isCoroutine = false) (hgen : fd.scope.isGenerator = false) (hk : fd.scope.kind = .function)
    (h : ∀ (L : Addr) (A' : Around) (s' : Shared) (E' : Value → Shared → Prop), Ok A' n → Ext h₁ s'.heap → (∀ b ∈ L :: (callEnvC fd L a).cells.map (·.2), h₁.get? b = none) → FC (callEnvC fd L a) (L :: (callEnvC fd L a).cells.map (·.2)) (names.zip ds) s' →
      Sq w A' (callEnvC fd L a) body (RC (L :: (callEnvC fd L a).cells.map (·.2)) s' d) E' s') :
    ClP w A h₁ (.ref a) ds d := fun s E vs k t r => by
  have hlv : vs.length = names.length := by rw [r.length, hlen]
  obtain ⟨⟨o, ho, hd⟩, hcd⟩ := F
  have Xs := X.trans k
  refine wpAny_call (codeAny_call_function (by have := O.depth; omega) (Xs _ _ ho) hd hco hgen hbody (hcd.keeps fun _ _ e => Xs _ _ e) ?_)
  rw [hbind vs hlv, hclo]
  refine wpAny_pure (fc_new hk t (hloc _) r fun env he s' F' kp newM => ?_)
  subst he
  refine ⟨(noLim Xs).keeps fun b o e => kp.ext _ _ e, codeAny_func (wpAny_mono (h s.heap.objs.size _ s' _ (O.deeper _) (k.trans kp.ext) (fun b hb => Nw.of k (newM b hb)) (F'.weaken fun x d hx => ?_)).run (fun f s'' z => ?_) fun _ _ e => e)⟩
  · rw [lookup_rev]
    · exact hx
    · have : ∀ (ns : List Str) (us : List PV), ((ns.zip us).map (·.1)).Sublist ns := by
        intro ns
        induction ns with
        | nil => intro us; simp
        | cons a ns ih => intro us; cases us with
          | nil => simp
          | cons u us => simp only [List.zip_cons_cons, List.map_cons]; exact List.Sublist.cons_cons _ (ih us)
      exact hnd.sublist (this names ds)
  · obtain ⟨v, rfl, rv, km⟩ := z
    refine ⟨rv, ?_⟩
    obtain ⟨h1, t1, rfl, e1, l1⟩ := kp
    obtain ⟨h2, t2, rfl, e2, _, l2⟩ := km
    exact ⟨h2, t2, rfl, fun b o e => e2 b o (fun hm => by rw [newM b hm] at e; cases e) (e1 b o e), Nat.le_trans l1 l2⟩
/-- addresses of data are none of the names' own -/
theorem FC.fit {d : PV} {v : Value} (F : FC env M ρ s) (hM : ∀ b ∈ M, b = env.locals ∨ ∃ x, env.cells.lookup x = some b) (r : Rep s.heap d v) : RepP (fun b => b ∉ M) s.heap d v := by
  refine (Rep.fit (k := fun b => b ∉ M) (fun b o hb ho => ?_) r).imp (fun b hb => hb.2) fun _ _ _ e => e
  have hb := Classical.not_not.mp hb
  rcases hM b hb with rfl | ⟨x, hx⟩
  · obtain ⟨m, ⟨o', es, ep, ho', hd, _⟩, _⟩ := F.ns
    rw [ho] at ho'; cases ho'
    exact .inl ⟨_, _, hd⟩
  · obtain ⟨⟨u, o', ho', hd⟩, _⟩ := F.live x b hx
    rw [ho] at ho'; cases ho'
    exact .inr ⟨u, hd⟩
theorem KM.drop {r : Addr} {M : List Addr} {s0 s1 s2 : Shared} (a : KM M s0 s1) (n : s0.heap.get? r = none) (k : KM (r :: M) s1 s2) : KM M s0 s2 := by
  obtain ⟨h1, t1, rfl, e1, n1, l1⟩ := a
  obtain ⟨h2, t2, rfl, e2, n2, l2⟩ := k
  refine ⟨h2, t2, rfl, fun b o hb e => e2 b o (fun hm => ?_) (e1 b o hb e), fun b hb e => n2 b (List.mem_cons_of_mem _ hb) (n1 b hb e), Nat.le_trans l1 l2⟩
  rcases List.mem_cons.mp hm with rfl | hm
  · rw [n] at e; cases e
  · exact hb hm
end T55

end
section
open PySem PySem.W PyProof.Rows PySem.Calls
namespace T55
set_option maxRecDepth 100000
set_option linter.unusedVariables false
variable {w : World} {A : Around} {env : Env} {h₁ : Heap} {s : Shared} {M : List Addr} {ρ : List (Str × PV)} {E : Value → Shared → Prop}
theorem cellOf_ok {env : Env} {x : Str} {c : Addr} (h : env.cells.lookup x = some c) : cellOf env x = pure c := by unfold cellOf; rw [h]
theorem clo_loop {env : Env} : ∀ (names : List (Str × NameKind)) (acc : List (Str × Addr)), (∀ y ∈ names, y.2 = .free → (env.cells.lookup y.1).isSome = true) → (∀ x c, acc.lookup x = some c → env.cells.lookup x = some c) →
    ∃ cl, (forIn names acc fun (x : Str × NameKind) (cs : List (Str × Addr)) => match x with | (name, kind) => if (kind == NameKind.free) = true then do let a ← cellOf env name; pure (ForInStep.yield ((name, a) :: cs)) else pure (ForInStep.yield cs)) = (pure cl : Sem _) ∧
      (∀ x c, cl.lookup x = some c → env.cells.lookup x = some c) ∧ (∀ y ∈ names, y.2 = .free → (cl.lookup y.1).isSome = true) ∧ (∀ x, (acc.lookup x).isSome = true → (cl.lookup x).isSome = true)
  | [], acc, _, ha => ⟨acc, by rw [List.forIn_nil], ha, fun y hy => (by cases hy), fun _ h => h⟩
  | (n, k) :: r, acc, hn, ha => by
    rw [List.forIn_cons]
    by_cases hk : (k == NameKind.free) = true
    · have hk' : k = .free := eq_of_beq hk
      obtain ⟨c, hc⟩ := Option.isSome_iff_exists.mp (hn (n, k) List.mem_cons_self hk')
      obtain ⟨cl, h1, h2, h3, h4⟩ := clo_loop r ((n, c) :: acc) (fun y hy => hn y (List.mem_cons_of_mem _ hy)) (fun x c' hx => by
        rw [List.lookup_cons] at hx
        split at hx
        · rename_i e
          rw [eq_of_beq e]; cases hx; exact hc
        · exact ha x c' hx)
      refine ⟨cl, ?_, h2, fun y hy hf => ?_, fun x hx => h4 x ?_⟩
      · simp only [hk, if_true, cellOf_ok hc, pure_bind]
        exact h1
      · rcases List.mem_cons.mp hy with rfl | hy
        · exact h4 _ (by simp)
        · exact h3 y hy hf
      · rw [List.lookup_cons]
        split
        · rfl
        · exact hx
    · obtain ⟨cl, h1, h2, h3, h4⟩ := clo_loop r acc (fun y hy => hn y (List.mem_cons_of_mem _ hy)) ha
      refine ⟨cl, ?_, h2, fun y hy hf => ?_, h4⟩
      · simp only [hk, if_false, pure_bind, Bool.false_eq_true]
        exact h1
      · rcases List.mem_cons.mp hy with rfl | hy
        · exact absurd (by rw [show k = NameKind.free from hf]; rfl) hk
        · exact h3 y hy hf
theorem clo_ok {env : Env} {scope : Scope} (hn : ∀ y ∈ scope.names, y.2 = .free → (env.cells.lookup y.1).isSome = true) :
    ∃ cl, closureFor scope env = pure cl ∧ ∀ y ∈ scope.names, y.2 = .free → cl.lookup y.1 = env.cells.lookup y.1 := by
  obtain ⟨cl, h1, h2, h3, _⟩ := clo_loop (env := env) scope.names [] hn (fun x c h => by cases h)
  refine ⟨cl, ?_, fun y hy hf => ?_⟩
  · unfold closureFor
    rw [bind_pure]
    exact h1
  · obtain ⟨c, hc⟩ := Option.isSome_iff_exists.mp (h3 y hy hf)
    rw [hc, h2 _ _ hc]
/-- the block of a comprehension -/
structure CE (env env' : Env) (scope : Scope) (C : Addr) : Prop where
  k : env'.scope.kind = .function
  g : env'.globals = env.globals
  b : env'.builtins = env.builtins
  l : env'.locals = C
  own : ∀ x k, scope.names.lookup x = some k → k ≠ .free → env'.kindOf x = some k
  fre : ∀ x, scope.names.lookup x = some .free → env'.cells.lookup x = env.cells.lookup x ∧ (env'.kindOf x = some .cell ∨ env'.kindOf x = some .free)
theorem ce_comp {scope : Scope} {cl : List (Str × Addr)} {C : Addr} (hkind : scope.kind = .function) (hcl : ∀ y ∈ scope.names, y.2 = .free → cl.lookup y.1 = env.cells.lookup y.1) : CE env (compEnvC scope cl C env) scope C := by
  have look : ∀ (names : List (Str × NameKind)) (x : Str) (k : NameKind), names.lookup x = some k →
      (names.map fun (n, k) => if (k == NameKind.free && env.scope.kind == .function && env.kindOf n == some .cell) then (n, NameKind.cell) else (n, k)).lookup x = some (if (k == NameKind.free && env.scope.kind == .function && env.kindOf x == some .cell) then NameKind.cell else k) := by
    intro names
    induction names with
    | nil => intro x k h; cases h
    | cons y r ih =>
      obtain ⟨n, k0⟩ := y
      intro x k h
      rw [List.map_cons]
      rw [List.lookup_cons] at h
      by_cases e : (x == n) = true
      · rw [e] at h
        have e' := eq_of_beq e
        subst e'
        cases h
        by_cases hc : (k0 == NameKind.free && env.scope.kind == .function && env.kindOf x == some .cell) = true
        · simp only [hc, if_true, List.lookup_cons, beq_self_eq_true]
        · simp only [hc, if_false, List.lookup_cons, beq_self_eq_true, Bool.false_eq_true]
      · have e' : (x == n) = false := by simpa using e
        rw [e'] at h
        by_cases hc : (k0 == NameKind.free && env.scope.kind == .function && env.kindOf n == some .cell) = true
        · simp only [hc, if_true, List.lookup_cons, e']
          exact ih x k h
        · simp only [hc, if_false, List.lookup_cons, e', Bool.false_eq_true]
          exact ih x k h
  refine ⟨hkind, rfl, rfl, rfl, fun x k hx hk => ?_, fun x hx => ⟨hcl _ (mem_of_lookup hx) rfl, ?_⟩⟩
  · have := look scope.names x k hx
    have hf : (k == NameKind.free) = false := by cases k <;> first | rfl | exact absurd rfl hk
    simp only [hf, Bool.false_and, Bool.false_eq_true, if_false] at this
    exact this
  · have := look scope.names x .free hx
    by_cases hc : ((NameKind.free == NameKind.free) && env.scope.kind == .function && env.kindOf x == some .cell) = true
    · rw [if_pos hc] at this; exact .inl this
    · rw [if_neg hc] at this; exact .inr this
theorem CE.ge {env' : Env} {scope : Scope} {C : Addr} {h : Heap} (c : CE env env' scope C) (G : GE w env h₁) (k : Ext h₁ h) : GE w env' h := ⟨c.g.trans G.g, c.b.trans G.b, c.k, G.x.trans k⟩
/-- a variable of the block around -/
noncomputable def Cv (env : Env) (h : Heap) (x : Str) (d : PV) : Prop := ∃ c v, env.cells.lookup x = some c ∧ h.IsCell c (some v) ∧ Rep h d v
theorem Cv.ev {env' : Env} {scope : Scope} {C : Addr} {x : Str} {d : PV} {pos : Pos} {h : Heap} (c : Cv env h₁ x d) (ce : CE env env' scope C) (k : Ext h₁ h) (hx : scope.names.lookup x = some .free) (hd : (x == ("__debug__" : Str)) = false) (hn : (x == ("__classdict__" : Str)) = false) : EvP w A env' h (.Name x pos) d := by
  obtain ⟨a, v, hc, hi, r⟩ := c
  obtain ⟨e1, e2⟩ := ce.fre x hx
  have hc' : env'.cells.lookup x = some a := e1.trans hc
  rcases e2 with e2 | e2
  · exact (ev_cell hi r ce.k e2 hc' hd).ext k
  · refine (EvP.mk fun s E kk t => wpAny_Name (wpAny_loadName_free ce.k e2 hc' (hi.keeps fun b o e => kk _ _ e) ⟨r.ext kk, Kp.refl s⟩ hn) hd : EvP w A env' h₁ (.Name x pos) d).ext k
theorem FC.cv (F : FC env M ρ s) {x : Str} {d : PV} (hx : ρ.lookup x = some d) (hl : env.kindOf x = some .cell) : Cv env s.heap x d := by
  obtain ⟨c, v, hc, hi, r⟩ := F.cell x d hx hl
  exact ⟨c, v, hc, hi, r.rep⟩
theorem testsOf_nil {env : Env} : testsOf [] env = pure true := rfl
theorem TK.nw {C : Addr} {s s' : Shared} (a : TK C s s') (hC : ∃ m, s.heap.Ns C m) {b : Addr} (n : Nw s'.heap b) : Nw s.heap b := by
  cases e : s.heap.get? b with
  | none => exact e
  | some o =>
    by_cases hb : b = C
    · subst hb
      obtain ⟨m, o', es, ep, ho, _⟩ := a.ns
      rw [show s'.heap.get? b = none from n] at ho; cases ho
    · have := a.get hb e
      rw [show s'.heap.get? b = none from n] at this; cases this
/-- the targets of a comprehension -/
noncomputable def AsP (w : World) (A : Around) (tg : Expr) (env : Env) (d : PV) (ρ : List (Str × PV)) : Prop :=
  ∀ (s : Shared) (E : Value → Shared → Prop) (v : Value), T55.Fr env [] s → RepP (fun b => b ≠ env.locals) s.heap d v → wpAny (model PW w) A (assign tg env v) (fun _ s' => T55.Fr env ρ s' ∧ TK env.locals s s') E s
theorem asp_name {x : Str} {p : Pos} {d : PV} (hx : env.kindOf x = some .local) (hk : env.scope.kind = .function) : AsP w A (.Name x p) env d [(x, d)] := fun s E v F r =>
  as_name F r hx hk fun s' F' k => ⟨F', k⟩
/-- a comprehension -/
theorem ev_list1 {tg iter elt : Expr} {ifs : List Expr} {scope : Scope} {pos : Pos} {n : Nat} {D R : Nat → PV} {keep : Nat → Bool} {ρt : Nat → List (Str × PV)}
    (hfree : ∀ y ∈ scope.names, y.2 = .free → (env.cells.lookup y.1).isSome = true) (hcell : ∀ y ∈ scope.names, y.2 ≠ .cell) (hkind : scope.kind = .function)
    (hnames : ∀ y ∈ scope.names, y.2 = .local → scope.names.lookup y.1 = some .local)
    {T : Nat} (hT : 1 ≤ T) (hit : ItP w A env h₁ T tg iter n D) (hsz : n ≤ 1000)
    (has : ∀ i, i < n → ∀ env' C, CE env env' scope C → AsP w A tg env' (D i) (ρt i))
    (test : ∀ i, i < n → ∀ env' C (s : Shared), CE env env' scope C → Ext h₁ s.heap → T ≤ s.toks → T55.Fr env' (ρt i) s → ∀ E, wpAny (model PW w) A (testsOf ifs env') (fun ok s' => ok = keep i ∧ Kp s s') E s)
    (helt : ∀ i, i < n → keep i = true → ∀ env' C (s : Shared), CE env env' scope C → Ext h₁ s.heap → T ≤ s.toks → T55.Fr env' (ρt i) s → EvT w A env' s.heap T elt (R i))
    (hs : ∀ x, foldedSetIterable iter env x = pure x := by intro _; rfl) :
    EvT w A env h₁ T (.ListComp elt [⟨tg, iter, ifs, 0⟩] scope pos) (.list (((List.range n).filter keep).map R)) := by
  obtain ⟨cl, hcl, hlook⟩ := clo_ok hfree
  refine ev_comp hcl hcell hkind hnames hT hit hsz (fun i hi C s E v hC x t hN rv => ?_) hs
  have ce : CE env (compEnvC scope cl C env) scope C := ce_comp hkind hlook
  generalize compEnvC scope cl C env = env' at ce
  have eC := ce.l
  subst eC
  have F0 : T55.Fr env' [] s := ⟨by obtain ⟨m, hm⟩ := hN; exact ⟨m, hm, fun x d hx => (by cases hx)⟩, Nat.le_trans hT t⟩
  refine wpAny_mono (has i hi env' _ ce s E v F0 rv) (fun _ s₂ z => ?_) fun _ _ e => e
  obtain ⟨F2, k2⟩ := z
  have x2 : Ext h₁ s₂.heap := k2.ext hC x
  have t2 := Nat.le_trans t k2.toks
  refine ⟨k2, wpAny_mono (test i hi env' _ s₂ ce x2 t2 F2 E) (fun ok s₃ z => ?_) fun _ _ e => e⟩
  obtain ⟨rfl, k3⟩ := z
  have F3 := F2.kp k3
  refine ⟨rfl, F2.tk' k3, fun hkp => ?_⟩
  refine wpAny_mono ((helt i hi hkp env' _ s₃ ce (x2.trans k3.ext) (Nat.le_trans t2 k3.toks) F3).run s₃ E (Ext.refl _) (Nat.le_trans t2 k3.toks)) (fun y s₄ z => ?_) fun _ _ e => e
  obtain ⟨ry, k4⟩ := z
  exact ⟨ry.imp (fun b hb => k2.nw hN (Nw.of k3.ext hb)) fun _ _ _ e => e, F3.tk' k4⟩
theorem test_nil {env' : Env} {s : Shared} : ∀ E, wpAny (model PW w) A (testsOf [] env') (fun ok s' => ok = true ∧ Kp s s') E s := fun E => by rw [testsOf_nil]; exact wpAny_pure ⟨rfl, Kp.refl s⟩
theorem test_one {env' : Env} {s : Shared} {c : Expr} {b : Bool} (h : TsP w A env' s.heap c b) (t : 1 ≤ s.toks) : ∀ E, wpAny (model PW w) A (testsOf [c] env') (fun ok s' => ok = b ∧ Kp s s') E s := fun E => by
  unfold testsOf
  rw [List.forIn_cons]
  simp only [if_true]
  refine wpAny_bind (wpAny_bind (h.use (Ext.refl _) t fun s' k => wpAny_pure ?_))
  simp only [List.forIn_nil]
  exact wpAny_pure ⟨rfl, k⟩
end T55

end
section
open PySem PySem.W PyProof.Rows PySem.Calls
namespace T55
set_option maxRecDepth 100000
set_option linter.unusedVariables false
variable {w : World} {A : Around} {env : Env} {h₁ : Heap} {s : Shared} {M : List Addr} {ρ : List (Str × PV)} {E : Value → Shared → Prop} {T : Nat}
theorem it_zip {h₀ : Heap} {tg : Expr} {elts : List Expr} {x1 : Nat} {tp : Pos} {z TI TO i1 i2 l1 l2 : Addr} {vs us : List Value} {ds es : List PV} {n : Nat} (hh : A.handled = none) (htg : tg = .Tuple elts x1 tp) (D : ZipApart z TI TO i1 i2 l1 l2)
    (hl1 : h₀.IsList l1 vs.toArray) (hl2 : h₀.IsList l2 us.toArray) (hr1 : RepL h₀ ds vs) (hr2 : RepL h₀ es us) (hn1 : ds.length = n) (hn2 : n ≤ es.length) (hfp : ∀ b ∈ [z, TI, TO, i1, i2], h₀.get? b = none) :
    It w A h₀ T tg z [z, TI, TO, i1, i2] n (fun i => .tup [nth ds i, nth es i]) (fun i h => IsZip h z TI TO .none ∧ IsPair h TI (.ref i1) (.ref i2) ∧ (∃ a b, IsPair h TO a b) ∧ h.IsListIter i1 l1 i ∧ h.IsListIter i2 l2 i) where
  new := hfp
  live := fun i h st b hb => by
    obtain ⟨hz, hTI, ⟨a, c, hTO⟩, ⟨o1, h1, _⟩, o2, h2, _⟩ := st
    simp at hb
    rcases hb with rfl | rfl | rfl | rfl | rfl
    · rw [hz]; rfl
    · rw [hTI]; rfl
    · rw [hTO]; rfl
    · rw [h1]; rfl
    · rw [h2]; rfl
  frame := fun i h h' st k => by
    obtain ⟨hz, hTI, ⟨a, c, hTO⟩, h1, h2⟩ := st
    exact ⟨k z (by simp) _ hz, k TI (by simp) _ hTI, ⟨a, c, k TO (by simp) _ hTO⟩, h1.at fun o e => k i1 (by simp) o e, h2.at fun o e => k i2 (by simp) o e⟩
  item := fun i s Q E hlt x t st hQ => by
    obtain ⟨hz, hTI, ⟨a, c, hTO⟩, h1, h2⟩ := st
    obtain ⟨v, hv, rv⟩ := hr1.get (nth_some (hn1 ▸ hlt))
    obtain ⟨u, hu, ru⟩ := hr2.get (nth_some (Nat.lt_of_lt_of_le hlt hn2))
    refine wpAny_pyNext_zip_item D hz hTI hTO h1 h2 (hl1.at fun o q => x _ _ q) (hl2.at fun o q => x _ _ q) (x := v) (y := u) (by simpa using hv) (by simpa using hu) fun h' a1 a2 a3 a4 a5 a6 a7 => ⟨_, rfl, ?_⟩
    subst htg
    refine wpAny_letOwnedTupleGo_zip a1 fun h'' hz'' hs'' => ?_
    have nz : ∀ b, b ∈ [z, TI, TO, i1, i2] → ∀ o, h₀.get? b = some o → False := fun b hb o q => by rw [hfp b hb] at q; cases q
    have x' : Ext h₀ h'' := fun b o q => hs''.extBut b o (by rintro rfl; exact nz _ (by simp) _ q) (a7 b o (by rintro rfl; exact nz _ (by simp) _ q) (by rintro rfl; exact nz _ (by simp) _ q) (by rintro rfl; exact nz _ (by simp) _ q) (by rintro rfl; exact nz _ (by simp) _ q) (x _ _ q))
    have hsz : s.heap.objs.size ≠ z := Nat.ne_of_gt (Heap.lt_size hz)
    refine hQ _ h'' s.toks ⟨s.heap.objs.size, [v, u], rfl, .inr (Heap.get?_none_of_le (Nat.le_refl _)), ⟨_, hs''.extBut _ _ hsz a5, rfl, _, rfl⟩, v, [u], rfl, RepP.imp (fun _ y => .inl y) (fun b o _ q => x' b o q) rv.toP, u, [], rfl, RepP.imp (fun _ y => .inl y) (fun b o _ q => x' b o q) ru.toP, rfl⟩
      ⟨hz'', hs''.extBut _ _ D.TIz (a7 _ _ D.TIz D.TITO D.TIi1 D.TIi2 hTI), ⟨_, _, hs''.extBut _ _ D.TOz a2⟩, a3.extBut hs''.extBut D.i1z, a4.extBut hs''.extBut D.i2z⟩ (Nat.le_refl _) fun b o hb q => hs''.extBut b o (by simp at hb; exact hb.1) (a7 b o (by simp at hb; exact hb.1) (by simp at hb; exact hb.2.2.1) (by simp at hb; exact hb.2.2.2.1) (by simp at hb; exact hb.2.2.2.2) q)
  done := fun s Q E x st hQ => by
    obtain ⟨hz, hTI, ⟨a, c, hTO⟩, h1, h2⟩ := st
    exact wpAny_pyNext_zip_end hh D hz hTI hTO h1 h2 (hl1.at fun o q => x _ _ q) (hl2.at fun o q => x _ _ q) (.inl (by simp [hr1.length, hn1])) fun h' hk => hQ h' s.toks (Nat.le_refl _) fun b o hb q =>
      hk b o (by simp at hb; exact hb.1) (by simp at hb; exact hb.2.2.1) (by simp at hb; exact hb.2.2.2.1) (by simp at hb; exact hb.2.2.2.2) q
  iter := fun i s Q E st hQ => wpAny_pyIter_zip st.1 hQ
theorem zip_apart (N l1 l2 : Nat) (h1 : l1 < N) (h2 : l2 < N) : ZipApart (N + 4) (N + 2) (N + 3) N (N + 1) l1 l2 := by
  constructor <;> (intro e; have e : (_ : Nat) = _ := e; omega)
/-- zip(e1, e2), a call -/
theorem itp_zip {e1 e2 : Expr} {p pos : Pos} {elts : List Expr} {x1 : Nat} {tp : Pos} {ds es : List PV} {n : Nat} (hh : A.handled = none)
    (hf : NmP w A env h₁ (.Name "zip" p) (.type "zip")) (h1 : EvP w A env h₁ e1 (.list ds)) (h2 : EvP w A env h₁ e2 (.list es)) (hn1 : ds.length = n) (hn2 : n ≤ es.length)
    (hs1 : ∀ rest, starEach (e1 :: rest) env = (false, eval e1 env) :: starEach rest env := by intro _; rfl) (hs2 : ∀ rest, starEach (e2 :: rest) env = (false, eval e2 env) :: starEach rest env := by intro _; rfl) :
    ItP w A env h₁ 1 (.Tuple elts x1 tp) (.Call (.Name "zip" p) [e1, e2] [] pos) n (fun i => .tup [nth ds i, nth es i]) := .mk fun s E k t => by
  refine wpAny_Call_NameR (hf.run s _ _ k ?_)
  have ha := args_cons h1 (args_cons h2 args_nil hs2) hs1
  refine callWith_of (P := fun h => Ext h₁ h) (by rw [backTo_plain ha]; rfl) (fun h x => keeps_val (fun a => by simp) _ h x) ?_
  have run := ha.run (pos := pos) s (E := E) k t
  rw [hs1] at run ⊢
  refine evalArgs_plain (wp_use run fun us s₁ r' q => ?_)
  obtain ⟨v1, us1, rfl, r1, r2⟩ := r'
  simp only [RepL] at r2
  obtain ⟨v2, us2, rfl, r2, rfl⟩ := r2
  obtain ⟨l1, vs, rfl, hl1, hr1⟩ := r1
  obtain ⟨l2, us, rfl, hl2, hr2⟩ := r2
  refine ⟨k.trans q.ext, call_zip_2 hl1.isList hl2.isList fun h' a1 a2 a3 a4 a5 a6 a7 => wpAny_pyIter_zip a1 ?_⟩
  have lt1 : l1 < s₁.heap.objs.size := by obtain ⟨o, ho⟩ := hl1; exact Heap.lt_size ho
  have lt2 : l2 < s₁.heap.objs.size := by obtain ⟨o, ho⟩ := hl2; exact Heap.lt_size ho
  have D : ZipApart (s₁.heap.objs.size + 4) (s₁.heap.objs.size + 2) (s₁.heap.objs.size + 3) s₁.heap.objs.size (s₁.heap.objs.size + 1) l1 l2 := zip_apart _ _ _ lt1 lt2
  refine ⟨⟨s₁.heap, s₁.heap.objs.size + 4, [s₁.heap.objs.size + 4, s₁.heap.objs.size + 2, s₁.heap.objs.size + 3, s₁.heap.objs.size, s₁.heap.objs.size + 1], _, rfl, q.ext, a7, it_zip hh rfl D hl1.isList hl2.isList hr1 hr2 hn1 hn2 (fun b hb => ?_), a1, a2, ⟨_, _, a3⟩, a4, a5⟩, q.trans ⟨h', s₁.toks, rfl, a7, Nat.le_refl _⟩⟩
  refine Heap.get?_none_of_le ?_
  simp only [List.mem_cons, List.not_mem_nil, or_false] at hb
  rcases hb with rfl | rfl | rfl | rfl | rfl
  · exact Nat.le_add_right _ _
  · exact Nat.le_add_right _ _
  · exact Nat.le_add_right _ _
  · exact Nat.le_refl _
  · exact Nat.le_add_right _ _
/-- x, y taken from a pair -/
theorem asp_tup2 {x y : Str} {p1 p2 tp : Pos} {k : Nat} {d1 d2 : PV} (hh : A.handled = none) (hx : env.kindOf x = some .local) (hy : env.kindOf y = some .local) (hk : env.scope.kind = .function) :
    AsP w A (.Tuple [.Name x p1, .Name y p2] k tp) env (.tup [d1, d2]) [(y, d2), (x, d1)] := fun s E v F r => by
  simp only [RepP] at r
  obtain ⟨a, vs, rfl, ha, ht, v1, r1, rfl, rv1, v2, r2, rfl, rv2, rfl⟩ := r
  refine wpAny_assign_Tuple (items := #[v1, v2]) hh ht rfl rfl fun h' he => ?_
  have up : ∀ b o, s.heap.get? b = some o → h'.get? b = some o := fun b o e => he b o (Nat.ne_of_lt (Heap.lt_size e)) e
  have kp : Kp s { s with heap := h' } := ⟨h', s.toks, rfl, up, Nat.le_refl _⟩
  refine wpAny_assignInOrder_more (as_name (F.kp kp) (rv1.imp (fun _ y => y) fun b o _ e => up b o e) hx hk fun s₂ F2 k2 => ?_)
  refine wpAny_assignInOrder_more (as_name F2 (rv2.imp (fun _ y => y) fun b o hb e => k2.get hb (up b o e)) hy hk fun s₃ F3 k3 => ?_)
  exact wpAny_assignInOrder_none ⟨F3, TK.kp_left kp (k2.trans k3)⟩
theorem asp_tup3 {x y z : Str} {p1 p2 p3 tp : Pos} {k : Nat} {d1 d2 d3 : PV} (hh : A.handled = none) (hx : env.kindOf x = some .local) (hy : env.kindOf y = some .local) (hz : env.kindOf z = some .local) (hk : env.scope.kind = .function) :
    AsP w A (.Tuple [.Name x p1, .Name y p2, .Name z p3] k tp) env (.tup [d1, d2, d3]) [(z, d3), (y, d2), (x, d1)] := fun s E v F r => by
  simp only [RepP] at r
  obtain ⟨a, vs, rfl, ha, ht, v1, r1, rfl, rv1, v2, r2, rfl, rv2, v3, r3, rfl, rv3, rfl⟩ := r
  refine wpAny_assign_Tuple (items := #[v1, v2, v3]) hh ht rfl rfl fun h' he => ?_
  have up : ∀ b o, s.heap.get? b = some o → h'.get? b = some o := fun b o e => he b o (Nat.ne_of_lt (Heap.lt_size e)) e
  have kp : Kp s { s with heap := h' } := ⟨h', s.toks, rfl, up, Nat.le_refl _⟩
  refine wpAny_assignInOrder_more (as_name (F.kp kp) (rv1.imp (fun _ y => y) fun b o _ e => up b o e) hx hk fun s₂ F2 k2 => ?_)
  refine wpAny_assignInOrder_more (as_name F2 (rv2.imp (fun _ y => y) fun b o hb e => k2.get hb (up b o e)) hy hk fun s₃ F3 k3 => ?_)
  refine wpAny_assignInOrder_more (as_name F3 (rv3.imp (fun _ y => y) fun b o hb e => k3.get hb (k2.get hb (up b o e))) hz hk fun s₄ F4 k4 => ?_)
  exact wpAny_assignInOrder_none ⟨F4, TK.kp_left kp (k2.trans (k3.trans k4))⟩
/-- a tuple's items, each unpacked -/
theorem it_tupleG {h₀ : Heap} {elts : List Expr} {x1 : Nat} {tp : Pos} {I ax : Addr} {vs : List Value} {ds : List PV} (hh : A.handled = none) (hl : h₀.IsTuple ax vs.toArray) (hr : RepL h₀ ds vs) (hI : h₀.get? I = none) :
    It w A h₀ T (.Tuple elts x1 tp) I [I] ds.length (nth ds) (fun i h => h.IsTupleIter I ax i) where
  new := fun b hb => by simp at hb; subst hb; exact hI
  live := fun i h st b hb => by simp at hb; subst hb; obtain ⟨o, ho, _⟩ := st; rw [ho]; rfl
  frame := fun i h h' st k => st.at fun o e => k I (by simp) o e
  item := fun i s Q E hi x t st hQ => by
    obtain ⟨v, hv, rv⟩ := hr.get (nth_some hi)
    refine wpAny_pyNext_tuple_item st (hl.at fun o e => x _ _ e) (x := v) (by simpa using hv) fun h' hit' hs' => ⟨v, rfl, ?_⟩
    have fin := hQ v h' s.toks (RepP.imp (fun _ y => .inl y) (fun b o y e => hs'.extBut b o (by rintro rfl; rw [hI] at y; cases y) (by obtain ⟨o', ho'⟩ := Option.isSome_iff_exists.mp y; rw [ho'] at e; cases e; exact x _ _ ho')) rv.toP) hit' (Nat.le_refl _) fun b o hb e => hs'.extBut b o (by simpa using hb) e
    unfold letOwnedTupleGo
    cases v with
    | ref a =>
      obtain ⟨o, ho, hc, hd⟩ := hit'
      refine wpAny_bind (wpAny_load ho ?_)
      obtain ⟨cls, dict, dt, sl⟩ := o
      simp only at hc hd
      subst hc hd
      exact wpAny_pure fin
    | _ => exact wpAny_pure fin
  done := fun s Q E x st hQ => wpAny_pyNext_tuple_end hh st (hl.at fun o e => x _ _ e) (by simp [hr.length]) fun h' he' => hQ h' s.toks (Nat.le_refl _) fun b o hb e => he' b o (by simpa using hb) e
  iter := fun i s Q E st hQ => wpAny_pyIter_tupleiter st hQ
theorem itp_tupleG {iter : Expr} {elts : List Expr} {x1 : Nat} {tp : Pos} {ds : List PV} (hh : A.handled = none) (h : EvP w A env h₁ iter (.tup ds)) : ItP w A env h₁ 1 (.Tuple elts x1 tp) iter ds.length (nth ds) := .mk fun s E k t =>
  h.use k t fun x s₁ r q => by
    obtain ⟨ax, vs, rfl, hl, hr⟩ := r
    refine wpAny_pyIter_tuple hl ⟨⟨s₁.heap, s₁.heap.objs.size, _, _, rfl, q.ext, (Kp.push s₁ _).ext, it_tupleG hh hl hr (Heap.get?_none_of_le (Nat.le_refl _)), ⟨_, Heap.get?_push_size _ rfl, rfl, rfl⟩⟩, q.trans (Kp.push s₁ _)⟩
end T55

end
section
open PySem PySem.W PyProof.Rows PySem.Calls
namespace T55
set_option maxRecDepth 100000
set_option linter.unusedVariables false
theorem no_pylong {a b : Int} (h : b.natAbs < 2 ^ 30) : Builtin.divisionGoesByPylong a b = false := by
  unfold Builtin.divisionGoesByPylong
  have : (if (b == 0) = true then 0 else b.natAbs.log2 / 30 + 1) ≤ 2 := by
    split
    · omega
    · have : b.natAbs.log2 < 31 := by
        by_cases h0 : b.natAbs = 0
        · rw [h0]; decide
        · rw [Nat.log2_lt h0]; omega
      omega
  simp only [Bool.and_eq_false_iff]
  exact .inl (decide_eq_false (by omega))
theorem filterMap_at {α : Type} (l : List α) (m lo : Nat) (h : lo + m ≤ l.length) : ((List.range m).map (lo + ·)).filterMap (l[·]?) = (l.drop lo).take m := filterMap_run l m lo h
theorem pick_from {α : Type} (l : List α) (p : Nat) (h : p ≤ l.length) : pick l (some (p : Int)) none none = l.drop p := by
  unfold pick sliceBounds
  simp only [Option.getD_none, show (1 : Int) > 0 by decide, if_true]
  rw [if_neg (by omega)]
  have e : max 0 (min (p : Int) l.length) = (p : Int) := by omega
  rw [e, sliceRange_one, filterMap_at _ _ _ (by omega)]
  rw [← List.length_drop, List.take_length]
theorem pick_to {α : Type} (l : List α) (p : Nat) : pick l none (some (p : Int)) none = l.take p := by
  unfold pick sliceBounds
  simp only [Option.getD_none, show (1 : Int) > 0 by decide, if_true]
  rw [if_neg (by omega)]
  have e : max 0 (min (p : Int) l.length) = ((min p l.length : Nat) : Int) := by omega
  rw [e, show (0 : Int) = ((0 : Nat) : Int) from rfl, sliceRange_one, filterMap_at _ _ _ (by omega)]
  rw [List.drop_zero, Nat.sub_zero]
  by_cases h : p ≤ l.length
  · rw [Nat.min_eq_left h]
  · rw [Nat.min_eq_right (by omega), List.take_length, List.take_of_length_le (by omega)]
theorem pick_mem {α : Type} {l : List α} {a b c : Option Int} {x : α} (h : x ∈ pick l a b c) : x ∈ l := by
  unfold pick at h
  obtain ⟨i, _, hi⟩ := List.mem_filterMap.mp h
  exact List.mem_of_getElem? hi
theorem pick_map {α β : Type} (f : α → β) (l : List α) (a b c : Option Int) : pick (l.map f) a b c = (pick l a b c).map f := by
  unfold pick
  rw [List.length_map, List.map_filterMap]
  congr 1
  funext i
  simp
theorem pick4_len {α : Type} (l : List α) (k : Nat) (h : l.length ≤ 60) : (pick l (some (k : Int)) none (some 4)).length ≤ 100 := by
  unfold pick
  refine Nat.le_trans (List.length_filterMap_le _ _) ?_
  unfold sliceBounds sliceRange
  simp only [Option.getD_some, show (4 : Int) > 0 by decide, if_true, List.length_map, List.length_range]
  rw [if_neg (show ¬ (k : Int) < 0 by omega)]
  split
  · omega
  · decide
theorem tx_append (a b : List Nat) : tx a ++ tx b = tx (a ++ b) := by
  show Str.mk _ = Str.mk _
  simp [tx]
theorem join_tx : ∀ (l : List (List Nat)), Txt.join (Str.ofString "") (l.map tx) = tx l.flatten := by
  intro l
  show Builtin.Str.glued _ _ = _
  rw [StrLaws.glued_eq_join]
  induction l with
  | nil => rfl
  | cons x l ih =>
    cases l with
    | nil => simp [Str.join]
    | cons y l =>
      simp only [List.map_cons] at ih ⊢
      show tx x ++ Str.ofString "" ++ Str.join (Str.ofString "") (tx y :: List.map tx l) = _
      rw [ih]
      have e : (Str.ofString "") = tx [] := rfl
      rw [e, tx_append, tx_append]
      simp
theorem join_ok (l : List (List Nat)) (h : l.flatten.length ≤ 1000000) : JoinOk (Str.ofString "") (l.map tx) = true := by
  unfold JoinOk
  rw [StrLaws.joinTotal]
  have : (List.map (fun x => x.length) (List.map tx l)).sum = l.flatten.length := by
    rw [List.length_flatten, List.map_map]
    congr 1
  unfold Builtin.Str.tooLong
  have e : (Str.ofString "").length = 0 := rfl
  rw [e]
  simp only [Bool.not_eq_true', decide_eq_false_iff_not]
  rw [sizeLine_eq]
  have := this
  omega
theorem mul_tx (l : List Nat) (n : Nat) (h : n ≤ 2) : Txt.mul (tx l) (n : Int) = tx (List.replicate n l).flatten := by
  have : n = 0 ∨ n = 1 ∨ n = 2 := by omega
  unfold Txt.mul
  rcases this with rfl | rfl | rfl
  · rfl
  · simp
  · by_cases hl : l = []
    · subst hl; rfl
    · have : ¬ (((2 : Nat) : Int) == 1 || (tx l).length == 0) = true := by
        rw [tx_len]; simp [hl]
      rw [if_neg (by decide), if_neg this]
      show Str.mk _ = Str.mk _
      simp [tx]
end T55

end
section
open PySem PySem.W PyProof.Rows PySem.Calls
namespace T55
set_option maxRecDepth 100000
set_option linter.unusedVariables false
variable {w : World} {A : Around} {env : Env} {h₁ : Heap}
/-- between the turns of a comprehension whose block changes Mc -/
noncomputable def CompM (s₂ : Shared) (fp Mc : List Addr) (St : Nat → Heap → Prop) (J : Shared → Prop) (n : Nat) (keep : Nat → Bool) (R : Nat → PV) (m : Nat) (s' : Shared) : Prop :=
  ∃ i h' tk ys, s' = { s₂ with heap := h', toks := tk } ∧ i ≤ n ∧ m = n + 1 - i ∧ St i h' ∧ h'.PlainList s₂.heap.objs.size ys ∧ J { s₂ with heap := h', toks := tk } ∧
    RepPL (fun b => s₂.heap.get? b = none ∧ b ∉ Mc ∧ b ≠ s₂.heap.objs.size) h' (((List.range i).filter keep).map R) ys.toList ∧ (∀ b o, b ∉ fp → b ∉ Mc → b ≠ s₂.heap.objs.size → s₂.heap.get? b = some o → h'.get? b = some o) ∧ s₂.toks ≤ tk
/-- a block of a comprehension: J holds where its own objects Mc stand -/
structure BlkJ (scope : Scope) (env : Env) (cl : List (Str × Addr)) (w : World) (A : Around) (J : Env → List Addr → Shared → Prop) : Prop where
  new : ∀ (s : Shared) (Q : Env → Shared → Prop) (E : Value → Shared → Prop), 1 ≤ s.toks →
    (∀ cenv Mc s', (∀ b ∈ Mc, s.heap.get? b = none) → J { cenv with scope := relabel scope env } Mc s' → Kp s s' → Q cenv s') →
    wpAny (model PW w) A (newFunctionEnv scope env.globals cl [] env.qual none .none (some env)) Q E s
  stab : ∀ e Mc (s : Shared) h' tk, J e Mc s → (∀ b o, b ∈ Mc → s.heap.get? b = some o → h'.get? b = some o) → s.toks ≤ tk → J e Mc { s with heap := h', toks := tk }
  ns : ∀ e Mc (s : Shared), J e Mc s → e.locals ∈ Mc ∧ (∃ m, s.heap.Ns e.locals m) ∧ ∀ b ∈ Mc, (s.heap.get? b).isSome = true
theorem comp_core {use : Option (Value → Sem Unit)} {Q : Value → Shared → Prop} {E : Value → Shared → Prop} {s : Shared} {tg iter elt : Expr} {ifs : List Expr} {scope : Scope} {cl : List (Str × Addr)} {pos : Pos} {n : Nat} {D R : Nat → PV} {keep : Nat → Bool}
    {J : Env → List Addr → Shared → Prop} (B : BlkJ scope env cl w A J) (hclos : closureFor scope env = pure cl) (hkind : scope.kind = .function)
    (hnames : ∀ y ∈ scope.names, y.2 = .local → scope.names.lookup y.1 = some .local)
    {T : Nat} (hT : 1 ≤ T) (hit : ItP w A env h₁ T tg iter n D) (hsz : n ≤ 1000) (k : Ext h₁ s.heap) (t : T ≤ s.toks)
    (turn : ∀ i, i < n → ∀ (e : Env) (Mc : List Addr) (s : Shared) (E : Value → Shared → Prop) (v : Value), (∀ b ∈ Mc, h₁.get? b = none) → J e Mc s → Ext h₁ s.heap → T ≤ s.toks → RepP (fun b => b ∉ Mc) s.heap (D i) v →
      wpAny (model PW w) A (assign tg e v) (fun _ s₂ => wpAny (model PW w) A (testsOf ifs e) (fun ok s₃ => ok = keep i ∧ (keep i = false → KM Mc s s₃ ∧ J e Mc s₃) ∧
        (keep i = true → wpAny (model PW w) A (eval elt e) (fun y s₄ => RepP (Nw s.heap) s₄.heap (R i) y ∧ KM Mc s s₄ ∧ J e Mc s₄) E s₃)) E s₂) E s)
    (fin : ∀ (D C : Addr) (s' : Shared), D ≠ C → s.heap.get? C = none → s.heap.get? D = none → (∃ m, s'.heap.Ns C m) → RepP (fun b => s.heap.get? b = none ∧ b ≠ C) s'.heap (.list (((List.range n).filter keep).map R)) (.ref D) → Kp s s' →
      compPost (model PW w) A E use Q (.ref D) C (.ok .next) s')
    (hs : ∀ x, foldedSetIterable iter env x = pure x) :
    wpAny (model PW w) A (comprehension (.ListComp elt [⟨tg, iter, ifs, 0⟩] scope pos) scope env (firstIterPos [⟨tg, iter, ifs, 0⟩] pos) (newList []) false (eval iter env) use) Q E s := by
  refine wpAny_comprehension_free rfl hs hclos hkind hnames ?_
  refine wpAny_mono (hit.run s E k t) (fun xv s₁ z₁ => wpAny_mono z₁ (fun it s₂ z₂ => ?_) fun _ _ e => e) fun _ _ e => e
  obtain ⟨⟨h₀, I, fp, St, rfl, x0, x2, W, st0⟩, q2⟩ := z₂
  refine wpAny_newObj_type ?_
  generalize hH2 : s₂.heap.push { cls := .type "list", dict := none, data := .seq ([] : List Value).toArray } = H2
  refine B.new _ _ _ (Nat.le_trans hT (Nat.le_trans t q2.toks)) fun cenv Mc s₃ hMn hJ kp3 => ?_
  generalize hce : ({ cenv with scope := relabel scope env } : Env) = ce at hJ ⊢
  have eCL : cenv.locals = ce.locals := by rw [← hce]
  rw [eCL]
  obtain ⟨hCM, _, _⟩ := B.ns _ _ _ hJ
  generalize hC : ce.locals = C at hCM ⊢
  have old2 : ∀ b o, s₂.heap.get? b = some o → H2.get? b = some o := fun b o e => hH2 ▸ Heap.get?_push_of_some _ e
  have hM2 : ∀ b ∈ Mc, s₂.heap.get? b = none := fun b hb => by
    cases e : s₂.heap.get? b with
    | none => rfl
    | some o => have := hMn b hb; rw [show ({ s₂ with heap := H2 } : Shared).heap.get? b = some o from old2 _ _ e] at this; cases this
  have accH : H2.get? s₂.heap.objs.size = some { cls := .type "list", dict := none, data := .seq ([] : List Value).toArray } := hH2 ▸ Heap.get?_push_size _ rfl
  have hDM : s₂.heap.objs.size ∉ Mc := fun hm => by have := hMn _ hm; rw [show ({ s₂ with heap := H2 } : Shared).heap.get? s₂.heap.objs.size = some _ from accH] at this; cases this
  have hDC : s₂.heap.objs.size ≠ C := fun e => hDM (e ▸ hCM)
  have hfp : ∀ b ∈ fp, (s₂.heap.get? b).isSome = true := fun b hb => W.live 0 _ st0 b hb
  obtain ⟨H₁, tk₁, rfl, e31, l31⟩ := kp3
  have old : ∀ b o, s₂.heap.get? b = some o → H₁.get? b = some o := fun b o e => e31 _ _ (old2 _ _ e)
  have hacc : H₁.PlainList s₂.heap.objs.size #[] := ⟨_, e31 _ _ accH⟩
  have hst₁ : St 0 H₁ := W.frame _ _ _ st0 fun b _ o e => old b o e
  have k2 : Ext h₁ s₂.heap := k.trans q2.ext
  have hM1 : ∀ b ∈ Mc, h₁.get? b = none := fun b hb => Nw.of k2 (hM2 b hb)
  have hDf : s₂.heap.objs.size ∉ fp := fun hm => by have := hfp _ hm; rw [Heap.get?_none_of_le (Nat.le_refl _)] at this; cases this
  have hMf : ∀ b ∈ Mc, b ∉ fp := fun b hb hm => by have := hfp _ hm; rw [hM2 b hb] at this; cases this
  have nF : ∀ b, s₂.heap.get? b = none → b ∉ fp := fun b hb hm => by have := hfp b hm; rw [hb] at this; cases this
  have keepS : ∀ (h' : Heap), (∀ b o, b ∉ fp → b ∉ Mc → b ≠ s₂.heap.objs.size → s₂.heap.get? b = some o → h'.get? b = some o) → Ext h₀ h' := fun h' kk b o e => by
    have e2 := x2 b o e
    have lt := Heap.lt_size e2
    exact kk b o (fun hm => by have := W.new b hm; rw [e] at this; cases this) (fun hm => by rw [hM2 b hm] at e2; cases e2) (Nat.ne_of_lt lt) e2
  have loop : ∀ s₃ : Shared, s₃ = { s₂ with heap := H₁, toks := tk₁ } →
      codeAny (model PW w) A (.compLoop (.ListComp elt [⟨tg, iter, ifs, 0⟩] scope pos) 0 (.ref I) (.ref s₂.heap.objs.size) ce)
        (compPost (model PW w) A E use Q (.ref s₂.heap.objs.size) C) s₃ := by
    rintro s₃ rfl
    refine compLoop_gen (CompM s₂ fp Mc St (J ce Mc) n keep R) ?_ (n + 1)
      ⟨0, H₁, _, #[], rfl, Nat.zero_le _, rfl, hst₁, hacc, hJ, by simp [RepPL], fun b o _ _ _ e => old b o e, l31⟩
    rintro m s' Er ⟨i, h', tk, ys, rfl, hi, rfl, hst, hD, hJ', hR, hk, htk⟩
    by_cases hlt : i < n
    · have tok : T ≤ tk := Nat.le_trans t (Nat.le_trans q2.toks htk)
      refine wpAny_mono (W.item i { s₂ with heap := h', toks := tk } (TurnG w A tg elt ifs ce (.ref s₂.heap.objs.size) (CompM s₂ fp Mc St (J ce Mc) n keep R) (n + 1 - i) Er) Er hlt (keepS h' hk) tok hst fun v h₂ tk₂ rv hst₂ htk₂ hk₂ => ?_) (fun r s₁ z => ?_) fun _ _ e => e
      rotate_left
      · obtain ⟨v, rfl, z⟩ := z
        exact z
      have hk2 : ∀ b o, b ∉ fp → b ∉ Mc → b ≠ s₂.heap.objs.size → s₂.heap.get? b = some o → h₂.get? b = some o := fun b o x y z e => hk₂ b o x (hk b o x y z e)
      have hJ2 : J ce Mc { s₂ with heap := h₂, toks := tk₂ } := B.stab _ _ { s₂ with heap := h', toks := tk } h₂ tk₂ hJ' (fun b o hb e => hk₂ b o (hMf b hb) e) htk₂
      obtain ⟨_, _, liv2⟩ := B.ns _ _ _ hJ2
      obtain ⟨_, _, liv'⟩ := B.ns _ _ _ hJ'
      have hrC : ∀ b, ((h₀.get? b).isSome = true ∨ h'.get? b = none) → b ∉ Mc := fun b hb x => by
        rcases hb with hb | hb
        · obtain ⟨o, ho⟩ := Option.isSome_iff_exists.mp hb
          have := x2 _ _ ho
          rw [hM2 b x] at this; cases this
        · have := liv' b x
          rw [show ({ s₂ with heap := h', toks := tk } : Shared).heap.get? b = none from hb] at this; cases this
      have nw2 : ∀ b, h₂.get? b = none → s₂.heap.get? b = none ∧ b ∉ Mc ∧ b ≠ s₂.heap.objs.size := fun b hb => by
        have n1 : b ∉ Mc := fun x => by
          have := liv2 b x
          rw [show ({ s₂ with heap := h₂, toks := tk₂ } : Shared).heap.get? b = none from hb] at this; cases this
        have n2 : b ≠ s₂.heap.objs.size := fun x => by
          subst x
          obtain ⟨o, ho⟩ := hD
          rw [hk₂ _ _ hDf ho] at hb; cases hb
        refine ⟨?_, n1, n2⟩
        cases e : s₂.heap.get? b with
        | none => rfl
        | some o =>
          by_cases hm : b ∈ fp
          · have := W.live _ _ hst₂ b hm
            rw [hb] at this; cases this
          · have := hk2 b o hm n1 n2 e
            rw [hb] at this; cases this
      unfold TurnG
      refine wpAny_mono (turn i hlt ce Mc { s₂ with heap := h₂, toks := tk₂ } Er v hM1 hJ2 (fun b o e => keepS h₂ hk2 b o (x0 b o (k b o e))) (Nat.le_trans tok htk₂) (rv.imp hrC fun _ _ _ e => e)) (fun _ s₂' z => ?_) fun _ _ e => e
      refine wpAny_mono z (fun ok s₃ z => ?_) fun _ _ e => e
      obtain ⟨rfl, zf, zt⟩ := z
      have fin' : ∀ (s₄ : Shared), KM Mc { s₂ with heap := h₂, toks := tk₂ } s₄ → J ce Mc s₄ → ∃ h₄ tk₄, s₄ = { s₂ with heap := h₄, toks := tk₄ } ∧ St (i + 1) h₄ ∧ h₄.PlainList s₂.heap.objs.size ys ∧ J ce Mc { s₂ with heap := h₄, toks := tk₄ } ∧
          RepPL (fun b => s₂.heap.get? b = none ∧ b ∉ Mc ∧ b ≠ s₂.heap.objs.size) h₄ (((List.range i).filter keep).map R) ys.toList ∧ (∀ b o, b ∉ fp → b ∉ Mc → b ≠ s₂.heap.objs.size → s₂.heap.get? b = some o → h₄.get? b = some o) ∧ s₂.toks ≤ tk₄ := fun s₄ q j => by
        obtain ⟨h₄, tk₄, rfl, e4, _, l4⟩ := q
        refine ⟨h₄, tk₄, rfl, W.frame _ _ _ hst₂ fun b hb o e => e4 b o (fun x => hMf b x hb) e, ?_, j, ?_, fun b o x y z e => e4 b o y (hk2 b o x y z e), Nat.le_trans htk (Nat.le_trans htk₂ l4)⟩
        · exact (hD.at fun o e => hk₂ _ o hDf e).at fun o e => e4 _ o hDM e
        · exact hR.imp (fun _ x => x) fun b o hb e => e4 b o hb.2.1 (hk₂ b o (nF b hb.1) e)
      cases hkp : keep i with
      | false =>
        simp only [Bool.false_eq_true, if_false]
        obtain ⟨km, j⟩ := zf hkp
        obtain ⟨h₄, tk₄, rfl, a1, a2, a3, a4, a5, a6⟩ := fin' s₃ km j
        refine ⟨n + 1 - (i + 1), by omega, i + 1, h₄, tk₄, ys, rfl, hlt, rfl, a1, a2, a3, ?_, a5, a6⟩
        rw [range_succ_filter, hkp]
        simpa using a4
      | true =>
        simp only [if_true]
        refine wpAny_mono (zt hkp) (fun y s₄ z => ?_) fun _ _ e => e
        obtain ⟨ry, km, j⟩ := z
        obtain ⟨h₄, tk₄, rfl, a1, a2, a3, a4, a5, a6⟩ := fin' s₄ km j
        have hys : ys.size ≤ sizeLine := by
          have e1 := a4.length
          have e2 : (((List.range i).filter keep).map R).length ≤ i := by
            rw [List.length_map]
            exact Nat.le_trans (List.length_filter_le _ _) (by simp)
          have e4 : ys.toList.length = ys.size := by simp
          rw [sizeLine_eq]; omega
        refine wpAny_list_append_plain (hsz := hys) a2 fun h₅ hl₅ hs₅ => ?_
        refine ⟨n + 1 - (i + 1), by omega, i + 1, h₅, tk₄, ys.push y, rfl, hlt, rfl, ?_, hl₅, ?_, ?_, fun b o x y z e => hs₅.extBut b o z (a5 b o x y z e), a6⟩
        · exact W.frame _ _ _ a1 fun b hb o e => hs₅.extBut b o (fun x => hDf (x ▸ hb)) e
        · exact B.stab _ _ { s₂ with heap := h₄, toks := tk₄ } h₅ tk₄ a3 (fun b o hb e => hs₅.extBut b o (fun x => hDM (x ▸ hb)) e) (Nat.le_refl _)
        · rw [range_succ_filter, hkp]
          simp only [if_true, Array.toList_push]
          have up : ∀ b o, (s₂.heap.get? b = none ∧ b ∉ Mc ∧ b ≠ s₂.heap.objs.size) → h₄.get? b = some o → h₅.get? b = some o := fun b o hb e => hs₅.extBut b o hb.2.2 e
          exact RepPL.snoc (a4.imp (fun _ x => x) up) (ry.imp (fun b hb => nw2 b hb) fun b o hb e => up b o (nw2 b hb) e)
    · have hin : i = n := by omega
      subst hin
      refine W.done _ _ _ (keepS h' hk) hst fun h₂ tk₂ htk₂ hk₂ => ?_
      have hJ2 : J ce Mc { s₂ with heap := h₂, toks := tk₂ } := B.stab _ _ { s₂ with heap := h', toks := tk } h₂ tk₂ hJ' (fun b o hb e => hk₂ b o (hMf b hb) e) htk₂
      obtain ⟨_, nsC, _⟩ := B.ns _ _ _ hJ2
      refine fin _ _ _ hDC (Nw.of q2.ext (hM2 _ hCM)) (Nw.of q2.ext (Heap.get?_none_of_le (Nat.le_refl _))) (hC ▸ nsC) ⟨_, ys.toList, rfl, ⟨Nw.of q2.ext (Heap.get?_none_of_le (Nat.le_refl _)), hDC⟩, ?_, ?_⟩ ?_
      · have := hD.at fun o e => hk₂ _ o hDf e
        simpa using this
      · exact hR.imp (fun b hb => ⟨Nw.of q2.ext hb.1, fun e => hb.2.1 (e ▸ hCM)⟩) fun b o hb e => hk₂ b o (nF b hb.1) e
      · obtain ⟨h2, t2, rfl, e2, l2⟩ := q2
        refine ⟨h₂, tk₂, rfl, fun b o e => ?_, Nat.le_trans l2 (Nat.le_trans htk htk₂)⟩
        have e0 := x0 b o e
        have e2' := x2 b o e0
        have nfp : b ∉ fp := fun hm => by have := W.new b hm; rw [e0] at this; cases this
        exact hk₂ b o nfp (keepS h' hk b o e0)
  exact codeAny_compStart_list (loop _ rfl) (W.iter 0 _ _ _ hst₁ (loop _ rfl))
end T55

end
section
open PySem PySem.W PyProof.Rows PySem.Calls
namespace T55
set_option maxRecDepth 100000
set_option linter.unusedVariables false
variable {w : World} {A : Around} {env : Env} {h₁ : Heap} {s : Shared} {M : List Addr} {ρ : List (Str × PV)}
theorem RepP.live {k : Addr → Prop} {h : Heap} : ∀ {d : PV} {v : Value}, RepP k h d v → RepP (fun b => k b ∧ (h.get? b).isSome = true) h d v := by
  intro d v r
  induction d using PV.rec (motive_2 := fun l => ∀ vs, RepPL k h l vs → RepPL (fun b => k b ∧ (h.get? b).isSome = true) h l vs) generalizing v with
  | none => simpa only [RepP] using r
  | bool => simpa only [RepP] using r
  | int => simpa only [RepP] using r
  | ge => simpa only [RepP] using r
  | lt => simpa only [RepP] using r
  | adr => simpa only [RepP] using r
  | tl =>
    simp only [RepP] at r
    obtain ⟨a, rfl, ka, hl⟩ := r
    exact ⟨a, rfl, ⟨ka, by obtain ⟨n, ho⟩ := hl; rw [ho]; rfl⟩, hl⟩
  | str => simpa only [RepP] using r
  | list l ih =>
    simp only [RepP] at r
    obtain ⟨a, vs, rfl, ka, hl, hr⟩ := r
    exact ⟨a, vs, rfl, ⟨ka, by obtain ⟨n, ho⟩ := hl; rw [ho]; rfl⟩, hl, ih _ hr⟩
  | tup l ih =>
    simp only [RepP] at r
    obtain ⟨a, vs, rfl, ka, hl, hr⟩ := r
    exact ⟨a, vs, rfl, ⟨ka, by obtain ⟨o, ho, _⟩ := hl; rw [ho]; rfl⟩, hl, ih _ hr⟩
  | nil => rename_i vs r; simpa only [RepPL] using r
  | cons p ps ih1 ih2 =>
    rename_i vs r
    simp only [RepPL] at r
    obtain ⟨v, q, rfl, h1, h2⟩ := r
    exact ⟨v, q, rfl, ih1 h1, ih2 _ h2⟩
theorem FC.addC {C : Addr} {s' : Shared} (F : FC env M ρ s) (k : Kp s s') (hC : s.heap.get? C = none) (hC' : (s'.heap.get? C).isSome = true) : FC env (C :: M) ρ s' := by
  have F' := F.kp k
  have rep : ∀ d v, RepP (fun b => b ∉ M) s.heap d v → RepP (fun b => b ∉ C :: M) s'.heap d v := fun d v r =>
    r.live.imp (fun b hb hm => by
      rcases List.mem_cons.mp hm with rfl | hm
      · rw [hC] at hb; cases hb.2
      · exact hb.1 hm) fun b o _ e => k.ext _ _ e
  refine ⟨?_, fun x d hx hl => ?_, fun x c hc => ?_, F.apart, List.mem_cons_of_mem _ F.inM, fun b hb => ?_, F'.tk⟩
  · obtain ⟨m, hn, h⟩ := F.ns
    exact ⟨m, hn.at fun o e => k.ext _ _ e, fun x d hx hl => by obtain ⟨v, hv, r⟩ := h x d hx hl; exact ⟨v, hv, rep d v r⟩⟩
  · obtain ⟨c, v, hc, hi, r⟩ := F.cell x d hx hl
    exact ⟨c, v, hc, hi.keeps fun b o e => k.ext _ _ e, rep d v r⟩
  · obtain ⟨h1, h2, h3⟩ := F'.live x c hc
    exact ⟨h1, List.mem_cons_of_mem _ h2, h3⟩
  · rcases List.mem_cons.mp hb with rfl | hb
    · exact hC'
    · exact F'.all b hb
theorem FC.dropC {C : Addr} {h' : Heap} (F : FC env (C :: M) ρ s) (hL : env.locals ≠ C) (hLM : env.locals ∈ M) (hc : ∀ x c, env.cells.lookup x = some c → c ≠ C ∧ c ∈ M) (hM : ∀ b ∈ M, b ≠ C) (sb : Heap.SameBut C s.heap h') : FC env M ρ { s with heap := h' } := by
  have rep : ∀ d v, RepP (fun b => b ∉ C :: M) s.heap d v → RepP (fun b => b ∉ M) h' d v := fun d v r =>
    r.imp (fun b hb hm => hb (List.mem_cons_of_mem _ hm)) fun b o hb e => sb.extBut b o (fun e => hb (e ▸ List.mem_cons_self)) e
  refine ⟨?_, fun x d hx hl => ?_, fun x c hcc => ?_, F.apart, hLM, fun b hb => ?_, F.tk⟩
  · obtain ⟨m, hn, h⟩ := F.ns
    exact ⟨m, hn.sameBut sb hL, fun x d hx hl => by obtain ⟨v, hv, r⟩ := h x d hx hl; exact ⟨v, hv, rep d v r⟩⟩
  · obtain ⟨c, v, hcc, hi, r⟩ := F.cell x d hx hl
    exact ⟨c, v, hcc, hi.sameBut sb (hc x c hcc).1, rep d v r⟩
  · obtain ⟨⟨u, h1⟩, h2, h3⟩ := F.live x c hcc
    exact ⟨⟨u, h1.sameBut sb (hc x c hcc).1⟩, (hc x c hcc).2, h3⟩
  · obtain ⟨o, ho⟩ := Option.isSome_iff_exists.mp (F.all b (List.mem_cons_of_mem _ hb))
    show (h'.get? b).isSome = true
    rw [sb.extBut b o (hM b hb) ho]; rfl
/-- a block without cells of its own -/
noncomputable abbrev J1 (env : Env) (scope : Scope) : Env → List Addr → Shared → Prop := fun e Mc s => Mc = [e.locals] ∧ (∃ m, s.heap.Ns e.locals m) ∧ CE env e scope e.locals
theorem blk1 {scope : Scope} {cl : List (Str × Addr)} (hcell : ∀ y ∈ scope.names, y.2 ≠ .cell) (hkind : scope.kind = .function) (hcl : ∀ y ∈ scope.names, y.2 = .free → cl.lookup y.1 = env.cells.lookup y.1) :
    BlkJ scope env cl w A (J1 env scope) where
  new := fun s Q E t h => by
    refine wpAny_newFunctionEnv hcell (by intro y hy; simp at hy) (fun H₁ hns₁ hsb₁ => ?_) hkind
    have up : ∀ b o, s.heap.get? b = some o → H₁.get? b = some o := fun b o e => hsb₁.extBut b o (Nat.ne_of_lt (Heap.lt_size e)) (Heap.get?_push_of_some _ e)
    refine h _ [s.heap.objs.size] _ (fun b hb => ?_) ⟨rfl, ⟨_, hns₁⟩, ce_comp (C := s.heap.objs.size) hkind hcl⟩ ⟨H₁, _, rfl, up, Nat.le_add_right _ _⟩
    simp at hb; subst hb
    exact Heap.get?_none_of_le (Nat.le_refl _)
  stab := fun e Mc s h' tk ⟨h1, ⟨m, h2⟩, h3⟩ hk le => ⟨h1, ⟨m, h2.at fun o q => hk _ o (by rw [h1]; simp) q⟩, h3⟩
  ns := fun e Mc s ⟨h1, ⟨m, h2⟩, h3⟩ => ⟨by rw [h1]; simp, ⟨m, h2⟩, fun b hb => by
    rw [h1] at hb; simp at hb; subst hb
    obtain ⟨o, es, ep, ho, _⟩ := h2
    rw [ho]; rfl⟩
/-- what a turn of a plain comprehension does -/
theorem turn1 {tg elt : Expr} {ifs : List Expr} {scope : Scope} {n : Nat} {D R : Nat → PV} {keep : Nat → Bool} {ρt : Nat → List (Str × PV)} {T : Nat} (hT : 1 ≤ T)
    (has : ∀ i, i < n → ∀ env' C, CE env env' scope C → AsP w A tg env' (D i) (ρt i))
    (test : ∀ i, i < n → ∀ env' C (s : Shared), CE env env' scope C → Ext h₁ s.heap → T ≤ s.toks → T55.Fr env' (ρt i) s → ∀ E, wpAny (model PW w) A (testsOf ifs env') (fun ok s' => ok = keep i ∧ Kp s s') E s)
    (helt : ∀ i, i < n → keep i = true → ∀ env' C (s : Shared), CE env env' scope C → Ext h₁ s.heap → T ≤ s.toks → T55.Fr env' (ρt i) s → EvT w A env' s.heap T elt (R i)) :
    ∀ i, i < n → ∀ (e : Env) (Mc : List Addr) (s : Shared) (E : Value → Shared → Prop) (v : Value), (∀ b ∈ Mc, h₁.get? b = none) → J1 env scope e Mc s → Ext h₁ s.heap → T ≤ s.toks → RepP (fun b => b ∉ Mc) s.heap (D i) v →
      wpAny (model PW w) A (assign tg e v) (fun _ s₂ => wpAny (model PW w) A (testsOf ifs e) (fun ok s₃ => ok = keep i ∧ (keep i = false → KM Mc s s₃ ∧ J1 env scope e Mc s₃) ∧
        (keep i = true → wpAny (model PW w) A (eval elt e) (fun y s₄ => RepP (Nw s.heap) s₄.heap (R i) y ∧ KM Mc s s₄ ∧ J1 env scope e Mc s₄) E s₃)) E s₂) E s := by
  rintro i hi e Mc s E v hM ⟨rfl, hN, ce⟩ x t rv
  have F0 : T55.Fr e [] s := ⟨by obtain ⟨m, hm⟩ := hN; exact ⟨m, hm, fun x d hx => (by cases hx)⟩, Nat.le_trans hT t⟩
  refine wpAny_mono (has i hi e _ ce s E v F0 (rv.imp (fun b hb e => hb (by simp [e])) fun _ _ _ e => e)) (fun _ s₂ z => ?_) fun _ _ e => e
  obtain ⟨F2, k2⟩ := z
  have x2 : Ext h₁ s₂.heap := k2.ext (hM _ (by simp)) x
  have t2 := Nat.le_trans t k2.toks
  refine wpAny_mono (test i hi e _ s₂ ce x2 t2 F2 E) (fun ok s₃ z => ?_) fun _ _ e => e
  obtain ⟨rfl, k3⟩ := z
  have F3 := F2.kp k3
  have km3 : KM [e.locals] s s₃ := (KM.of_tk (by simp) k2).trans (KM.of_kp k3)
  refine ⟨rfl, fun _ => ⟨km3, rfl, F3.ns', ce⟩, fun hkp => ?_⟩
  refine wpAny_mono ((helt i hi hkp e _ s₃ ce (x2.trans k3.ext) (Nat.le_trans t2 k3.toks) F3).run s₃ E (Ext.refl _) (Nat.le_trans t2 k3.toks)) (fun y s₄ z => ?_) fun _ _ e => e
  obtain ⟨ry, k4⟩ := z
  exact ⟨ry.imp (fun b hb => k2.nw hN (Nw.of k3.ext hb)) fun _ _ _ e => e, km3.trans (KM.of_kp k4), rfl, (F3.kp k4).ns', ce⟩
/-- x = a comprehension, x a local name -/
theorem sc_comp {E : Value → Shared → Prop} {Q : Flow → Shared → Prop} {x : Str} {p' spos : Pos} {rest : List Stmt} {tg iter elt : Expr} {ifs : List Expr} {scope : Scope} {pos : Pos} {n : Nat} {D R : Nat → PV} {keep : Nat → Bool} {ρt : Nat → List (Str × PV)} (F : FC env M ρ s)
    (hl : env.kindOf x = some .local) (hk : env.scope.kind = .function)
    (hfree : ∀ y ∈ scope.names, y.2 = .free → (env.cells.lookup y.1).isSome = true) (hcell : ∀ y ∈ scope.names, y.2 ≠ .cell) (hkind : scope.kind = .function)
    (hnames : ∀ y ∈ scope.names, y.2 = .local → scope.names.lookup y.1 = some .local)
    {T : Nat} (hT : 1 ≤ T) (hit : ItP w A env s.heap T tg iter n D) (hsz : n ≤ 1000) (t : T ≤ s.toks)
    (has : ∀ i, i < n → ∀ env' C, CE env env' scope C → AsP w A tg env' (D i) (ρt i))
    (test : ∀ i, i < n → ∀ env' C (s₁ : Shared), CE env env' scope C → Ext s.heap s₁.heap → T ≤ s₁.toks → T55.Fr env' (ρt i) s₁ → ∀ E, wpAny (model PW w) A (testsOf ifs env') (fun ok s' => ok = keep i ∧ Kp s₁ s') E s₁)
    (helt : ∀ i, i < n → keep i = true → ∀ env' C (s₁ : Shared), CE env env' scope C → Ext s.heap s₁.heap → T ≤ s₁.toks → T55.Fr env' (ρt i) s₁ → EvT w A env' s₁.heap T elt (R i))
    (hq : ∀ s', FC env M ((x, .list (((List.range n).filter keep).map R)) :: ρ) s' → KM M s s' → Sq w A env rest Q E s')
    (hsw : swapsWith (.ListComp elt [⟨tg, iter, ifs, 0⟩] scope pos) (some (.Name x p')) spos.line env = pure true)
    (hs : ∀ x, foldedSetIterable iter env x = pure x := by intro _; rfl) :
    Sq w A env (.Assign [.Name x p'] (.ListComp elt [⟨tg, iter, ifs, 0⟩] scope pos) spos :: rest) Q E s := by
  obtain ⟨cl, hcl, hlook⟩ := clo_ok hfree
  refine .mk (wpAny_execs_cons ?_)
  rw [exec_Assign_Name_used _ _ _ _ hsw]
  refine wpAny_bind (wpAny_standAt ?_)
  show wpAny _ _ ((comprehension (.ListComp elt [⟨tg, iter, ifs, 0⟩] scope pos) scope env (firstIterPos [⟨tg, iter, ifs, 0⟩] pos) (newList []) false (eval iter env) (some (assign (.Name x p') env)) >>= fun _ => pure ()) >>= fun _ => pure Flow.next) _ _ _
  refine wpAny_bind (wpAny_bind (comp_core (Q := fun _ s' => wpAny (model PW w) A (pure ()) (fun (_ : Unit) s'' => wpAny (model PW w) A (pure Flow.next) (fun f s''' => match f with | .next => wpAny (model PW w) A (execs rest env) Q E s''' | f => Q f s''') E s'') E s') (blk1 hcell hkind hlook) hcl hkind hnames hT hit hsz (Ext.refl _) t (turn1 hT has test helt) (fun D C s' hDC hC hD hns r kp => ?_) hs))
  have hC' : (s'.heap.get? C).isSome = true := by
    obtain ⟨m, o, es, ep, ho, _⟩ := hns
    rw [ho]; rfl
  have F1 := F.addC kp hC hC'
  have hCM : ∀ b ∈ M, b ≠ C := fun b hb e => by have := F.all b hb; rw [e, hC] at this; cases this
  have hCL : env.locals ≠ C := hCM _ F.inM
  obtain ⟨mC, hnC⟩ := hns
  have rr : RepP (fun b => b ∉ C :: M) s'.heap (.list (((List.range n).filter keep).map R)) (.ref D) := r.imp (fun b hb hm => by
    rcases List.mem_cons.mp hm with rfl | hm
    · exact hb.2 rfl
    · exact F.nM b hb.1 hm) fun _ _ _ e => e
  show wpAny _ _ (assign (.Name x p') env (.ref D)) _ _ _
  refine assign_Name ?_
  obtain ⟨m, hns, hm⟩ := F1.ns
  refine wpAny_storeName_local hl hns (fun h' hn sb => ?_) (by rw [hk]; rfl)
  have out : ∀ b, b ∉ C :: M → b ≠ env.locals := fun b hb e => hb (e ▸ F1.inM)
  refine ⟨mC, hnC.sameBut sb (Ne.symm hCL), fun h'' sb'' => wpAny_pure (wpAny_pure ?_)⟩
  have F2 : FC env (C :: M) ((x, .list (((List.range n).filter keep).map R)) :: ρ) { s' with heap := h', toks := s'.toks + 1 } := by
    refine ⟨⟨_, hn, fun y dy hy hly => ?_⟩, fun y dy hy hly => ?_, fun y c hc => ?_, F1.apart, F1.inM, fun b hb => ?_, Nat.le_succ_of_le F1.tk⟩
    · by_cases hyx : y = x
      · subst hyx
        simp at hy; subst hy
        exact ⟨.ref D, by simp, rr.imp (fun _ z => z) fun b o hb e => sb.extBut b o (out b hb) e⟩
      · have : (y == x) = false := by simpa using hyx
        rw [List.lookup_cons, this] at hy
        obtain ⟨u, hu, ru⟩ := hm y dy hy hly
        exact ⟨u, by simp [hyx, hu], ru.imp (fun _ z => z) fun b o hb e => sb.extBut b o (out b hb) e⟩
    · by_cases hyx : y = x
      · subst hyx; rw [hl] at hly; cases hly
      · have : (y == x) = false := by simpa using hyx
        rw [List.lookup_cons, this] at hy
        obtain ⟨c, u, hc, hi, ru⟩ := F1.cell y dy hy hly
        exact ⟨c, u, hc, hi.sameBut sb (F1.live y c hc).2.2, ru.imp (fun _ z => z) fun b o hb e => sb.extBut b o (out b hb) e⟩
    · obtain ⟨⟨u, hu⟩, h⟩ := F1.live y c hc
      exact ⟨⟨u, hu.sameBut sb h.2⟩, h⟩
    · show (h'.get? b).isSome = true
      by_cases hbl : b = env.locals
      · subst hbl
        obtain ⟨o, es, ep, ho, _⟩ := hn
        rw [ho]; rfl
      · obtain ⟨o, ho⟩ := Option.isSome_iff_exists.mp (F1.all b hb)
        rw [sb.extBut b o hbl ho]; rfl
  have F3 := F2.dropC (h' := h'') hCL F.inM (fun y c hc => ⟨hCM _ (F.live y c hc).2.1, (F.live y c hc).2.1⟩) hCM sb''
  refine (hq _ F3 ?_).run
  obtain ⟨h2, t2, rfl, e2, l2⟩ := kp
  refine ⟨h'', _, rfl, fun b o hb e => sb''.extBut b o (fun q => by subst q; rw [hC] at e; cases e) (sb.extBut b o (fun q => hb (q ▸ F.inM)) (e2 b o e)), fun b hb e => F3.all b hb, Nat.le_succ_of_le l2⟩
end T55

end
section
open PySem PySem.W PyProof.Rows PySem.Calls
namespace T55
set_option maxRecDepth 100000
set_option linter.unusedVariables false
variable {w : World} {A : Around} {env : Env} {h₁ : Heap}
noncomputable def chs (forms heads : List Int) (low : Int) : List Nat := (List.range forms.length).map fun i => (heads.getD (forms.getD i 0).toNat 0 + low + (i : Int)).toNat
noncomputable def plc (hidden : Int) : Nat := (Int.fmod (Int.fdiv hidden 3) 5).toNat
noncomputable def typ (forms heads : List Int) (low hidden : Int) : List Nat :=
  ((chs forms heads low).take (plc hidden) ++ (List.replicate (Int.fmod hidden 3).toNat [(goneC (Int.fdiv hidden 15)).toNat]).flatten) ++ (chs forms heads low).drop (plc hidden)
theorem nth_pInts (l : List Int) (i : Nat) (h : i < l.length) : nth (pInts l) i = .int (l.getD i 0) := by
  simp [nth, pInts, List.getD_eq_getElem?_getD, h]
theorem pInts_get (l : List Int) (i : Nat) (h : i < l.length) : (pInts l)[i]? = some (.int (l.getD i 0)) := by
  simp [pInts, List.getD_eq_getElem?_getD, h]
theorem getD_mem {l : List Int} {i : Nat} (h : i < l.length) : l.getD i 0 ∈ l := by
  have : l.getD i 0 = l[i] := by simp [List.getD_eq_getElem?_getD, h]
  rw [this]; exact List.getElem_mem h
theorem pInts_len (l : List Int) : (pInts l).length = l.length := by simp [pInts]
noncomputable def txs (l : List (List Nat)) : List PV := l.map fun x => .str (tx x)
theorem txs_strs (l : List (List Nat)) : txs l = strs' (l.map tx) := by simp [txs, strs']
theorem singles_flat (l : List Nat) : (l.map fun c => [c]).flatten = l := by induction l with
  | nil => rfl
  | cons x l ih => simp [ih]
/-- "".join of single signs -/
theorem ev_join1 {k0 : Nat} {p0 apos pos : Pos} {e : Expr} {l : List Nat} (h : EvP w A env h₁ e (.list (txs (l.map fun c => [c])))) (hz : l.length ≤ 1000000)
    (hline : (apos.endLine == pos.line) = true) (hs : starEach [e] env = [(false, eval e env)] := by rfl) :
    EvP w A env h₁ (.Call (.Attribute (.Constant (.str (Str.ofString "")) k0 p0) "join" apos) [e] [] pos) (.str (tx l)) := by
  have := ev_join (w := w) (A := A) (k0 := k0) (p0 := p0) (apos := apos) (pos := pos) (sep := Str.ofString "") (l := (l.map fun c => [c]).map tx) (txs_strs _ ▸ h) (join_ok _ (by rw [singles_flat]; exact hz)) hline hs
  rwa [join_tx, singles_flat] at this
theorem swaps_true {env : Env} {elt : Expr} {gens : List Comprehension} {scope : Scope} {pos p' : Pos} {x : Str} {line : Nat} (hb : env.scope.kind = .function) (hl : env.kindOf x = some .local) (hline : (p'.line == pos.line) = true)
    (hn : (scope.names.any fun (n, k) => n == x && (k == .local || k == .cell)) = false) : swapsWith (.ListComp elt gens scope pos) (some (.Name x p')) line env = pure true := by
  show (pure _ : Sem Bool) = _
  have hline' : (p'.line == (Expr.ListComp elt gens scope pos).pos.line) = true := hline
  simp only [Env.blockKind, hb, hl, hline', hn]
  rfl
set_option maxHeartbeats 1000000 in
theorem cl_typed {forms heads : List Int} {low hidden : Int} (hf : forms.length = 5) (hfv : ∀ f ∈ forms, 0 ≤ f ∧ f < 4) (hh : heads.length = 4) (hhv : ∀ x ∈ heads, 0 ≤ x ∧ x ≤ 200000) (hlow : 0 ≤ low ∧ low ≤ 1000) (hhid : 0 ≤ hidden)
    (X : Ext (HZ w.params) h₁) (O : Ok A 2) : ClP w A h₁ (.ref 132) [.list (pInts forms), .tup (pInts heads), .int low, .int hidden] (.str (tx (typ forms heads low hidden))) := by
  refine cl_defC (fn_typed w.params) X O (body := bodyOf 20) (names := ["forms", "heads", "low", "hidden"]) (by kernel_rfl) (by decide) rfl (fun vs h => by obtain ⟨u, v, x, y, rfl⟩ := vlen4 h; kernel_rfl) (by kernel_rfl)
    (fun L x hx => ?_) (by kernel_rfl) (by kernel_rfl) (by kernel_rfl) fun L A' s' E' O' X' hnM F => ?_
  · simp only [List.mem_cons, List.not_mem_nil, or_false] at hx
    rcases hx with rfl | rfl | rfl | rfl
    · exact .inl (by kernel_rfl)
    · exact .inr ⟨by kernel_rfl, by kernel_rfl⟩
    · exact .inr ⟨by kernel_rfl, by kernel_rfl⟩
    · exact .inl (by kernel_rfl)
  conv in (bodyOf 20) => whnf
  have kF : (callEnvC (fdOf (oG132 w.params)) L 132).scope.kind = .function := by kernel_rfl
  have kg : (callEnvC (fdOf (oG132 w.params)) L 132).globals = 3 := by kernel_rfl
  have kb : (callEnvC (fdOf (oG132 w.params)) L 132).builtins = 0 := by kernel_rfl
  have kforms : (callEnvC (fdOf (oG132 w.params)) L 132).kindOf "forms" = some .local := by kernel_rfl
  have kheads : (callEnvC (fdOf (oG132 w.params)) L 132).kindOf "heads" = some .cell := by kernel_rfl
  have klow : (callEnvC (fdOf (oG132 w.params)) L 132).kindOf "low" = some .cell := by kernel_rfl
  have khidden : (callEnvC (fdOf (oG132 w.params)) L 132).kindOf "hidden" = some .local := by kernel_rfl
  have kplace : (callEnvC (fdOf (oG132 w.params)) L 132).kindOf "place" = some .local := by kernel_rfl
  have ksigns : (callEnvC (fdOf (oG132 w.params)) L 132).kindOf "signs" = some .local := by kernel_rfl
  have kenum : (callEnvC (fdOf (oG132 w.params)) L 132).kindOf "enumerate" = some .globalImplicit := by kernel_rfl
  have kgone : (callEnvC (fdOf (oG132 w.params)) L 132).kindOf "_law_gone" = some .globalImplicit := by kernel_rfl
  have cheads : ((callEnvC (fdOf (oG132 w.params)) L 132).cells.lookup ("heads" : Str)).isSome = true := by kernel_rfl
  have clow : ((callEnvC (fdOf (oG132 w.params)) L 132).cells.lookup ("low" : Str)).isSome = true := by kernel_rfl
  generalize callEnvC (fdOf (oG132 w.params)) L 132 = env at *
  generalize hM : L :: env.cells.map (·.2) = M at *
  have hMz : ∀ b ∈ M, (HZ w.params).get? b = none := fun b hb => Nw.of X (hnM b hb)
  have X0 := X.trans X'
  have ge : ∀ {h : Heap}, Ext (HZ w.params) h → GE w env h := fun x => ⟨kg, kb, kF, x⟩
  have G0 := ge X0
  have hcl : (chs forms heads low).length = 5 := by simp [chs, hf]
  have cvh := F.cv (x := "heads") (by rfl) kheads
  have cvl := F.cv (x := "low") (by rfl) klow
  have e : (((List.range (pInts forms).length).filter fun _ => true).map fun i => PV.str (tx [(chs forms heads low).getD i 0])) = txs ((chs forms heads low).map fun c => [c]) := by
    unfold txs
    rw [List.map_map, pInts_len, hf]
    generalize chs forms heads low = l at hcl
    obtain ⟨a, b, c, d, e, rfl⟩ : ∃ a b c d e, l = [a, b, c, d, e] := by
      match l, hcl with
      | [a, b, c, d, e], _ => exact ⟨a, b, c, d, e, rfl⟩
    rfl
  refine sc_comp (T := 1) (n := (pInts forms).length) (D := fun i => .tup [.int i, nth (pInts forms) i]) (R := fun i => .str (tx [(chs forms heads low).getD i 0])) (keep := fun _ => true) (ρt := fun i => [("form", nth (pInts forms) i), ("place", .int (i : Int))]) F ksigns kF
      ?_ (by decide +kernel) rfl (by decide +kernel) (Nat.le_refl 1) (itp_enum_list O'.handled (nm_builtin G0 kenum (b_enum w.params) (by kernel_rfl)) (F.ev (by rfl) kF (.inl kforms) (by kernel_rfl))) (by rw [pInts_len]; omega) F.tk
      (fun i hi env' C ce => asp_tup2 O'.handled (ce.own _ _ (by kernel_rfl) (by decide)) (ce.own _ _ (by kernel_rfl) (by decide)) ce.k) (fun i hi env' C s ce x t F' => test_nil) (fun i hi _ env' C s ce x t F' => ?_) (fun s1 F1 k1 => ?_) (swaps_true kF ksigns (by kernel_rfl) (by kernel_rfl))
  · intro y hy hfree
    simp only [List.mem_cons, List.not_mem_nil, or_false] at hy
    rcases hy with rfl | rfl | rfl | rfl | rfl | rfl <;> first | exact absurd hfree (by decide) | exact cheads | exact clow
  · rw [pInts_len] at hi
    rw [nth_pInts _ _ hi] at F'
    have hfi := hfv _ (getD_mem hi)
    have hhi := hhv (heads.getD (forms.getD i 0).toNat 0) (getD_mem (by omega))
    have ec : (chs forms heads low).getD i 0 = (heads.getD (forms.getD i 0).toNat 0 + low + (i : Int)).toNat := by
      simp [chs, List.getD_eq_getElem?_getD, hi]
    rw [ec]
    exact EvP.imm (ev_call (nm_builtin (ce.ge G0 x) (ce.own _ _ (by kernel_rfl) (by decide)) (b_chr w.params) (by kernel_rfl)) (keeps_val fun a => by simp)
      (args_cons (ev_bin (ev_bin (ev_item_tup (d := .int (heads.getD (forms.getD i 0).toNat 0)) (cvh.ev ce x (by kernel_rfl) (by kernel_rfl) (by kernel_rfl)) (F'.ev (by rfl) ce.k (ce.own _ _ (by kernel_rfl) (by decide)) (by kernel_rfl)) hfi.1 (by omega) (pInts_get _ _ (by omega))) (cvl.ev ce x (by kernel_rfl) (by kernel_rfl) (by kernel_rfl)) op_add_int)
        (F'.ev (by rfl) ce.k (ce.own _ _ (by kernel_rfl) (by decide)) (by kernel_rfl)) op_add_int) args_nil) (by simp) (cl_chr (by omega) (by omega))) trivial
  rw [e] at F1
  have ehid : ∀ {s : Shared} {ρ : List (Str × PV)} {p : Pos}, ρ.lookup ("hidden" : Str) = some (.int hidden) → FC env M ρ s → EvP w A' env s.heap (.Name "hidden" p) (.int hidden) := fun h F => F.ev h kF (.inl khidden) (by kernel_rfl)
  have b1 := Int.fmod_nonneg_of_pos (Int.fdiv hidden 3) (show (0 : Int) < 5 by decide)
  have b2 := Int.fmod_lt_of_pos (Int.fdiv hidden 3) (show (0 : Int) < 5 by decide)
  have b3 := Int.fmod_nonneg_of_pos hidden (show (0 : Int) < 3 by decide)
  have b4 := Int.fmod_lt_of_pos hidden (show (0 : Int) < 3 by decide)
  have epl : Int.fmod (Int.fdiv hidden 3) 5 = (plc hidden : Int) := by unfold plc; omega
  have enn : Int.fmod hidden 3 = ((Int.fmod hidden 3).toNat : Int) := by omega
  refine sc_assign (d := .int (plc hidden : Int)) F1 (epl ▸ EvP.imm (ev_bin (ev_bin (ehid (by rfl) F1) ev_int (op_div_int (by decide) (no_pylong (by decide)))) ev_int (op_mod_int (by decide))) trivial) F1.tk (.inl kplace) kF (fun s2 F2 k2 => ?_)
  have X2 : Ext (HZ w.params) s2.heap := (k1.trans k2).ext hMz X0
  have es : ∀ {p : Pos}, EvP w A' env s2.heap (.Name "signs" p) (.list (txs ((chs forms heads low).map fun c => [c]))) := F2.ev (by rfl) kF (.inl ksigns) (by kernel_rfl)
  have ep : ∀ {p : Pos}, EvP w A' env s2.heap (.Name "place" p) (.int (plc hidden : Int)) := F2.ev (by rfl) kF (.inl kplace) (by kernel_rfl)
  have hp5 : plc hidden ≤ 5 := by omega
  have lt : (txs ((chs forms heads low).map fun c => [c])).length = 5 := by simp [txs, hcl]
  have e1 : pick (txs ((chs forms heads low).map fun c => [c])) none (some (plc hidden : Int)) none = txs (((chs forms heads low).take (plc hidden)).map fun c => [c]) := by
    rw [pick_to]; simp [txs, List.map_take]
  have e2 : pick (txs ((chs forms heads low).map fun c => [c])) (some (plc hidden : Int)) none none = txs (((chs forms heads low).drop (plc hidden)).map fun c => [c]) := by
    rw [pick_from _ _ (by omega)]; simp [txs, List.map_drop]
  have hsz : (txs ((chs forms heads low).map fun c => [c])).length ≤ sizeLine := by rw [lt, sizeLine_eq]; decide
  have hrep : (List.replicate (Int.fmod hidden 3).toNat [(goneC (Int.fdiv hidden 15)).toNat]).flatten.length ≤ 2 := by simp; omega
  have p1 : ∀ {k0 : Nat} {p0 apos pos q1 q2 q3 q4 : Pos}, (apos.endLine == pos.line) = true → EvP w A' env s2.heap (.Call (.Attribute (.Constant (.str (Str.ofString "")) k0 p0) "join" apos) [.Subscript (.Name "signs" q1) (.Slice none (some (.Name "place" q2)) none q3) q4] [] pos) (.str (tx ((chs forms heads low).take (plc hidden)))) :=
    fun hl => ev_join1 (e1 ▸ ev_slice_list es part_none (part_some ep) hsz) (by rw [List.length_take]; omega) hl
  have p2 : ∀ {k0 : Nat} {p0 apos pos q1 q2 q3 q4 : Pos}, (apos.endLine == pos.line) = true → EvP w A' env s2.heap (.Call (.Attribute (.Constant (.str (Str.ofString "")) k0 p0) "join" apos) [.Subscript (.Name "signs" q1) (.Slice (some (.Name "place" q2)) none none q3) q4] [] pos) (.str (tx ((chs forms heads low).drop (plc hidden)))) :=
    fun hl => ev_join1 (e2 ▸ ev_slice_list es (part_some ep) part_none hsz) (by rw [List.length_drop]; omega) hl
  refine sq_ret (d := .str (tx (typ forms heads low hidden))) ?_ F2.tk fun v s3 r q => ⟨v, rfl, r, (k1.trans k2).trans (KM.of_kp q)⟩
  unfold typ
  rw [← tx_append, ← tx_append, ← mul_tx _ _ (by omega), ← enn]
  have hmul : (Txt.mul (tx [(goneC (Int.fdiv hidden 15)).toNat]) (Int.fmod hidden 3)).length ≤ 2 := by rw [enn, mul_tx _ _ (by omega), tx_len]; simp; omega
  have l1 : (tx ((chs forms heads low).take (plc hidden))).length ≤ 5 := by rw [tx_len, List.length_take]; omega
  have l2 : (tx ((chs forms heads low).drop (plc hidden))).length ≤ 5 := by rw [tx_len, List.length_drop]; omega
  refine ev_bin (ev_bin (p1 (by kernel_rfl)) (ev_bin (ev_call (nm_global (ge X2) kgone (g_gone w.params) (by kernel_rfl)) ((fn_gone w.params).keeps X2) (args_cons (ev_bin (ehid (by rfl) F2) ev_int (op_div_int (by decide) (no_pylong (by decide)))) args_nil) (by simp) (cl_gone X2 O')) (ev_bin (ehid (by rfl) F2) ev_int (op_mod_int (by decide))) (op_mul_str ⟨b3, by omega⟩ (show 1 ≤ 1000 by decide))) (op_add_str ?_)) (p2 (by kernel_rfl)) (op_add_str ?_)
  · rw [sizeLine_eq]; exact Nat.le_trans (Nat.add_le_add l1 hmul) (by decide)
  · rw [sizeLine_eq, Str.length_append]; exact Nat.le_trans (Nat.add_le_add (Nat.add_le_add l1 hmul) l2) (by decide)
end T55

end
section
open PySem PySem.W PyProof.Rows PySem.Calls
namespace T55
set_option maxRecDepth 100000
set_option linter.unusedVariables false
section
variable {M : Model} {A : Around} {R : GenEnd} {Y : Protocol} {n : Nat} {s₀ : Shared} {c : Code} {fs : List Frame} {s : Shared} {env : Env}
  {K : Flow → Sem Fin} {H : Value → Sem Fin} {gd : Bool → Bool} {lv : List Value → List Value}
/-- what a loop gives back to the statement -/
noncomputable def backK (env : Env) (K : Flow → Sem Fin) (H : Value → Sem Fin) (gd : Bool → Bool) (lv : List Value → List Value) : Result → Sem Fin := fun r =>
  ((match r with | .ok f => (.pure f : Sem Flow) | .error e => .raise e).onRaise fun (x : Value) => do
        if (← field x 1) == Value.none then unsupported "frame.own-activation:exception-without-traceback"
        setFlight x env.frame).wrap K H gd lv
theorem seg_For {target iter : Expr} {body : List Stmt} {pos : Pos}
    (h : wpAny M (A.over c fs) (eval iter env) (fun x s₁ => wpAny M (A.over c fs) (pyIter x) (fun it s₂ => ∀ p l, Seg M A R Y n s₀ (.forLoop target it body [] env) (M.den (.forLoop target it body [] env)) (.ret (backK env K H gd lv) none (gd false) l c p [] :: fs) s₂)
      (fun x s' => Seg M A R Y n s₀ c (H x) fs s') s₁) (fun x s' => Seg M A R Y n s₀ c (H x) fs s') s)
    (hs : ∀ x, foldedSetIterable iter env x = pure x) :
    Seg M A R Y n s₀ c ((exec (.For target iter body [] pos) env).wrap K H gd lv) fs s := by
  rw [exec_For]
  show Seg M A R Y n s₀ c (.at pos fun _ => ((eval iter env >>= fun x => foldedSetIterable iter env x >>= fun x => standAt iter.pos >>= fun _ => holding [x] (pyIter x) >>= fun it => runOwn (.forLoop target it body [] env) env)).wrap K H gd lv) fs s
  refine seg_at ?_
  rw [Sem.bind_eq_wrap', Sem.wrap_wrap]
  refine seg_wrap (wpAny_mono h (fun x s₁ h₁ => ?_) fun _ _ e => e)
  rw [hs]
  show Seg M A R Y n s₀ c (.at iter.pos fun _ => ((holding [x] (pyIter x) >>= fun it => runOwn (.forLoop target it body [] env) env)).wrap K H _ _) fs s₁
  refine seg_at ?_
  rw [Sem.bind_eq_wrap', Sem.wrap_wrap]
  refine seg_wrap (wpAny_holding (wpAny_mono h₁ (fun it s₂ h₂ => ?_) fun _ _ e => e))
  exact seg_call fun p => h₂ p _
end
section
variable {prog : Program} {w : World} {A : Around} {R : GenEnd} {Y : Protocol} {n : Nat} {s₀ : Shared} {fs : List Frame} {s : Shared} {env : Env}
noncomputable def errH (env : Env) : Value → Sem Fin := fun e => (do noteFrame e env; theTreesLotGoes e : Sem Unit).wrap (fun _ => .raise e) .raise id id
theorem seg_forLoop {tg : Expr} {it : Value} {body : List Stmt}
    (h : ∀ E, wpAny (model prog w) (A.over (.forLoop tg it body [] env) fs) (pyNext it) (fun r s₁ => match r with
      | none => Seg (model prog w) A R Y n s₀ (.forLoop tg it body [] env) (.pure (.again (.block [] env))) fs s₁
      | some v => wpAny (model prog w) (A.over (.forLoop tg it body [] env) fs) (letOwnedTupleGo tg it v) (fun _ s₂ => wpAny (model prog w) (A.over (.forLoop tg it body [] env) fs) (assign tg env v) (fun _ s₃ =>
          Seg (model prog w) A R Y n s₀ (.forLoop tg it body [] env) ((execs body env).wrap (fun f => match f with
            | .next | .cont => .pure (.again (.forLoop tg it body [] env))
            | .brk => .pure (.done .next)
            | .ret v => .pure (.done (.ret v))) (errH env) id id) fs s₃) E s₂) E s₁) E s) :
    Seg (model prog w) A R Y n s₀ (.forLoop tg it body [] env) ((model prog w).den (.forLoop tg it body [] env)) fs s := by
  show Seg _ A R Y n s₀ _ ((forTurn tg it body [] env).onRaise (fun x => do noteFrame x env; theTreesLotGoes x)) fs s
  unfold forTurn
  rw [Sem.onRaise_eq_wrap, Sem.bind_eq_wrap', Sem.wrap_wrap]
  refine seg_wrap (wpAny_standAt ?_)
  rw [Sem.bind_eq_wrap', Sem.wrap_wrap]
  refine seg_wrap (wpAny_onRaise (wpAny_mono (h _) (fun r s₁ h₁ => ?_) fun x s' e => wpAny_standAt e))
  cases r with
  | none => exact h₁
  | some v =>
    show Seg _ A R Y n s₀ _ (Sem.wrap _ _ _ _ (letOwnedTupleGo tg it v >>= fun _ => assign tg env v >>= fun _ => execs body env >>= fun f => _)) fs s₁
    rw [Sem.bind_eq_wrap', Sem.wrap_wrap]
    refine seg_wrap (wpAny_mono h₁ (fun _ s₂ h₂ => ?_) fun _ _ e => e)
    rw [Sem.bind_eq_wrap', Sem.wrap_wrap]
    refine seg_wrap (wpAny_mono h₂ (fun _ s₃ h₃ => ?_) fun _ _ e => e)
    rw [Sem.bind_eq_wrap', Sem.wrap_wrap]
    rw [Sem.wrap_congr (execs body env) _ _ (K' := fun f => match f with
            | .next | .cont => .pure (.again (.forLoop tg it body [] env))
            | .brk => .pure (.done .next)
            | .ret v => .pure (.done (.ret v))) (H' := errH env)
        (fun f => by cases f <;> rfl)
        (fun e => by first | exact Sem.bind_eq_wrap _ _ | (show (do noteFrame e env; theTreesLotGoes e : Sem Unit).bind (fun _ => .raise e) = _; rw [Sem.bind_eq_wrap]; rfl))]
    exact h₃
end
end T55

end
section
open PySem PySem.W PyProof.Rows PySem.Calls
namespace T55
set_option maxRecDepth 100000
set_option linter.unusedVariables false
/-- the generator within its loop -/
structure GL (h₀ : Heap) (C ax I : Addr) (i : Nat) (s : Shared) : Prop where
  ns : ∃ m, s.heap.Ns C m
  it : s.heap.IsListIter I ax i
  x : Ext h₀ s.heap
  tk : 1 ≤ s.toks
/-- the generator at a yield -/
structure GI (h₀ : Heap) (C ax I : Addr) (i : Nat) (s : Shared) : Prop where
  gl : GL h₀ C ax I i s
  iv : ∃ m n t, s.heap.Ns C m ∧ m "interval" = some (Value.int n t)
theorem GI.km {h₀ : Heap} {C ax I : Addr} {i : Nat} {s s' : Shared} (G : GI h₀ C ax I i s) (hC : ∀ o, s.heap.get? C = some o → s'.heap.get? C = some o) (hI : ∀ o, s.heap.get? I = some o → s'.heap.get? I = some o) (x : Ext h₀ s'.heap) (t : s.toks ≤ s'.toks) : GI h₀ C ax I i s' := by
  obtain ⟨⟨⟨m, hn⟩, g2, g3, g4⟩, m', n, tt, hn', hv⟩ := G
  exact ⟨⟨⟨m, hn.at hC⟩, g2.at hI, x, Nat.le_trans g4 t⟩, m', n, tt, hn'.at hC, hv⟩
/-- what a generator's run keeps -/
noncomputable def GK (hb : Heap) (C : Addr) (s s' : Shared) : Prop := ∃ h' tk, s' = { s with heap := h', toks := tk } ∧ (∀ b o, (hb.get? b).isSome = true → b ≠ C → s.heap.get? b = some o → h'.get? b = some o) ∧ s.toks ≤ tk
theorem GK.trans {hb : Heap} {C : Addr} {s s' s'' : Shared} (a : GK hb C s s') (b : GK hb C s' s'') : GK hb C s s'' := by
  obtain ⟨h1, t1, rfl, e1, l1⟩ := a
  obtain ⟨h2, t2, rfl, e2, l2⟩ := b
  exact ⟨h2, t2, rfl, fun b o x y e => e2 b o x y (e1 b o x y e), Nat.le_trans l1 l2⟩
theorem GK.tk {hb : Heap} {C : Addr} {s s' : Shared} (a : TK C s s') : GK hb C s s' := by
  obtain ⟨h1, t1, rfl, e1, n1, l1⟩ := a
  exact ⟨h1, t1, rfl, fun b o _ ne e => e1 b o ne e, l1⟩
theorem GK.kp {hb : Heap} {C : Addr} {s s' : Shared} (a : Kp s s') : GK hb C s s' := by
  obtain ⟨h1, t1, rfl, e1, l1⟩ := a
  exact ⟨h1, t1, rfl, fun b o _ ne e => e1 b o e, l1⟩
/-- what the generator says at a yield -/
noncomputable def GY (h₀ hb : Heap) (C ax : Addr) (sz : List Int) (m : Nat) : Protocol := fun k s₀ v s' κ =>
  ∃ I i, i + 1 + k = m ∧ (∃ t, v = .int (sz.getD i 0) t) ∧ hb.get? I = none ∧ GK hb C s₀ s' ∧ GI h₀ C ax I (i + 1) s' ∧ ∀ s'', GI h₀ C ax I (i + 1) s'' → κ (.send .none) s''
noncomputable def GR (hb : Heap) (C : Addr) : GenEnd := fun n s₀ r s₁ => r = .ok (.ret .none) ∧ (n = 0 ∧ GK hb C s₀ s₁)
variable {w : World} {A : Around} {env : Env}
theorem over_none {A : Around} (hh : A.handled = none) (c : Code) {k g l c1 p kp} : (A.over c [.ret k none g l c1 p kp]).handled = none := by
  show (markOver none A.handled A.handled) = none
  rw [hh]; rfl
section
variable {s : Shared} {Q : Flow → Shared → Prop} {E : Value → Shared → Prop} {ρ : List (Str × PV)}
theorem ex_if {test : Expr} {body orelse : List Stmt} {pos : Pos} {b : Bool} (h : TsP w A env s.heap test b) (t : 1 ≤ s.toks)
    (hq : ∀ s', Kp s s' → wpAny (model PW w) A (execs (if b then body else orelse) env) Q E s') : wpAny (model PW w) A (exec (.If test body orelse pos) env) Q E s :=
  wpAny_If (h.use (Ext.refl _) t fun s' q => by
    cases b with
    | true => simp only [if_true]; exact hq s' q
    | false => simp only [Bool.false_eq_true, if_false]; exact hq s' q)
theorem ex_assign {x : Str} {p pos : Pos} {e : Expr} {d : PV} (F : T55.Fr env ρ s) (h : EvF w A env s.heap e d) (hl : env.kindOf x = some .local) (hk : env.scope.kind = .function)
    (hq : ∀ s', T55.Fr env ((x, d) :: ρ) s' → TK env.locals s s' → Q .next s')
    (hs : swapsWith e (some (.Name x p)) pos.line env = pure false := by rfl) : wpAny (model PW w) A (exec (.Assign [.Name x p] e pos) env) Q E s := by
  refine wpAny_Assign_Name (wp_use (h.run s E (Ext.refl _) F.tk) fun v s' r q => ?_) hs
  obtain ⟨m, hns, _⟩ := F.ns
  have hns' := hns.at (h' := s'.heap) fun o e => q.ext _ _ e
  refine wpAny_storeName_local hl hns' (fun h' hn sb => ?_) (by rw [hk]; rfl)
  obtain ⟨f, k⟩ := F.store q r _ hns' hn sb _ (Nat.le_succ _)
  exact hq _ f k
end
theorem GL.kp {h₀ : Heap} {C ax I : Addr} {i : Nat} {s s' : Shared} (G : GL h₀ C ax I i s) (k : Kp s s') : GL h₀ C ax I i s' := ⟨by obtain ⟨m, hn⟩ := G.ns; exact ⟨m, hn.at fun o e => k.ext _ _ e⟩, G.it.at fun o e => k.ext _ _ e, G.x.trans k.ext, Nat.le_trans G.tk k.toks⟩
theorem GL.of_tk {h₀ : Heap} {C ax I : Addr} {i : Nat} {s s' : Shared} (G : GL h₀ C ax I i s) (hIC : I ≠ C) (hC : h₀.get? C = none) (k : TK C s s') : GL h₀ C ax I i s' := ⟨k.ns, G.it.at fun o e => k.get hIC e, k.ext hC G.x, Nat.le_trans G.tk k.toks⟩
/-- the names of the generator -/
structure KG (env : Env) : Prop where
  F : env.scope.kind = .function
  g : env.globals = 3
  b : env.builtins = 0
  co : env.scope.isCoroutine = false
  ia : interactive env = false
  gr : env.kindOf "grouping" = some .local
  la : env.kindOf "last_interval" = some .local
  iv : env.kindOf "interval" = some .local
  cm : env.kindOf "CHAR_MAX" = some .globalImplicit
noncomputable def forSt : Option Stmt := (bodyOf 8)[1]?
theorem gen_loop {sz : List Int} {m : Nat} {h₀ hb : Heap} {ax I : Addr} {vs : List Value} (K : KG env) (hh : A.handled = none) (hl : h₀.IsList ax vs.toArray) (hr : RepL h₀ (pInts sz) vs) (hI : h₀.get? I = none) (hC : h₀.get? env.locals = none) (hIC : I ≠ env.locals) (hIb : hb.get? I = none)
    (X : Ext (HZ w.params) h₀) (hm : m < sz.length) (hv : ∀ i, i < m → sz.getD i 0 ≠ 127 ∧ sz.getD i 0 ≠ 0) (hend : sz.getD m 0 = 127)
    {tg iter : Expr} {body orelse : List Stmt} {pos : Pos} (hst : forSt = some (.For tg iter body orelse pos)) {l : List Value} {c : Code} {p : Pos} {K' : Flow → Sem Fin} {H : Value → Sem Fin} {gd : Bool → Bool} {lv : List Value → List Value} (hK : K' (.ret .none) = .pure (.done (.ret .none))) :
    ∀ (k i : Nat) (s s₀ : Shared), i + k = m → GL h₀ env.locals ax I i s → GK hb env.locals s₀ s →
      Seg (model PW w) A (GR hb env.locals) (GY h₀ hb env.locals ax sz m) k s₀ (.forLoop tg (.ref I) body [] env) ((model PW w).den (.forLoop tg (.ref I) body [] env)) [.ret (backK env K' H gd lv) none false l c p []] s := by
  conv at hst => lhs; whnf
  injection hst with hst
  injection hst with e1 e2 e3 e4 e5
  subst e1 e2 e3
  have hov : ∀ c', (A.over c' [.ret (backK env K' H gd lv) none false l c p []]).handled = none := fun c' => over_none hh c'
  -- a turn's common beginning
  have start : ∀ {k : Nat} {s₀ : Shared} (bd : List Stmt) (i : Nat) (s : Shared), i ≤ m → GL h₀ env.locals ax I i s → GK hb env.locals s₀ s →
      (∀ s3, T55.Fr env [("interval", .int (sz.getD i 0))] s3 → GL h₀ env.locals ax I (i + 1) s3 → GK hb env.locals s₀ s3 →
        Seg (model PW w) A (GR hb env.locals) (GY h₀ hb env.locals ax sz m) k s₀ (.forLoop (.Name "interval" {line := 53, col := 8, endLine := 53, endCol := 16}) (.ref I) bd [] env) ((execs bd env).wrap (fun f => match f with
            | .next | .cont => .pure (.again (.forLoop (.Name "interval" {line := 53, col := 8, endLine := 53, endCol := 16}) (.ref I) bd [] env))
            | .brk => .pure (.done .next)
            | .ret v => .pure (.done (.ret v))) (errH env) id id) [.ret (backK env K' H gd lv) none false l c p []] s3) →
      Seg (model PW w) A (GR hb env.locals) (GY h₀ hb env.locals ax sz m) k s₀ (.forLoop (.Name "interval" {line := 53, col := 8, endLine := 53, endCol := 16}) (.ref I) bd [] env) ((model PW w).den (.forLoop (.Name "interval" {line := 53, col := 8, endLine := 53, endCol := 16}) (.ref I) bd [] env)) [.ret (backK env K' H gd lv) none false l c p []] s := by
    intro k s₀ bd i s him G gk fin
    refine seg_forLoop fun E => ?_
    have hlt : i < (pInts sz).length := by rw [pInts_len]; omega
    refine wpAny_mono ((it_list (w := w) (T := 1) (tg := .Name "interval" {line := 53, col := 8, endLine := 53, endCol := 16}) (hov _) noGo_name hl hr hI).item i s (fun v s₂ => wpAny (model PW w) (A.over (.forLoop (.Name "interval" {line := 53, col := 8, endLine := 53, endCol := 16}) (.ref I) bd [] env) [.ret (backK env K' H gd lv) none false l c p []]) (assign (.Name "interval" {line := 53, col := 8, endLine := 53, endCol := 16}) env v) (fun _ s₃ =>
      Seg (model PW w) A (GR hb env.locals) (GY h₀ hb env.locals ax sz m) k s₀ (.forLoop (.Name "interval" {line := 53, col := 8, endLine := 53, endCol := 16}) (.ref I) bd [] env) ((execs bd env).wrap (fun f => match f with
            | .next | .cont => .pure (.again (.forLoop (.Name "interval" {line := 53, col := 8, endLine := 53, endCol := 16}) (.ref I) bd [] env))
            | .brk => .pure (.done .next)
            | .ret v => .pure (.done (.ret v))) (errH env) id id) [.ret (backK env K' H gd lv) none false l c p []] s₃) E s₂) E hlt G.x G.tk G.it (fun v h' tk rv hit le hk => ?_)) (fun r s₁ z => ?_) fun _ _ e => e
    rotate_left
    · obtain ⟨v, rfl, z⟩ := z
      exact z
    rw [nth_pInts _ _ (by omega)] at rv
    obtain ⟨mm, hn⟩ := G.ns
    have F1 : T55.Fr env [] { s with heap := h', toks := tk } := ⟨⟨mm, hn.at fun o e => hk _ o (by simpa using Ne.symm hIC) e, fun x d hx => (by cases hx)⟩, Nat.le_trans G.tk le⟩
    have x1 : Ext h₀ h' := fun b o e => hk b o (by simp; rintro rfl; rw [hI] at e; cases e) (G.x b o e)
    refine as_name F1 (RepP.imm (p := .int (sz.getD i 0)) trivial rv.rep) K.iv K.F fun s3 F3 t3 => ?_
    refine fin s3 F3 ⟨F3.ns', hit.at fun o e => t3.get hIC e, t3.ext hC x1, F3.tk⟩ ((gk.trans ⟨h', tk, rfl, fun b o hbb _ e => hk b o (by simp; rintro rfl; rw [hIb] at hbb; cases hbb) e, le⟩).trans (GK.tk t3))
  have eiv : ∀ {B : Around} {s : Shared} {x : Int} {p : Pos}, T55.Fr env [("interval", .int x)] s → EvP w B env s.heap (.Name "interval" p) (.int x) := fun F => F.ev (by rfl) K.F K.iv (by kernel_rfl)
  have ecm : ∀ {B : Around} {s : Shared} {p : Pos}, Ext h₀ s.heap → EvP w B env s.heap (.Name "CHAR_MAX" p) (.int 127) := fun x => by
    obtain ⟨t, g⟩ := g_cmax w.params
    exact ev_gname (⟨K.g, K.b, K.F, X.trans x⟩ : GE w env _) K.cm g (fun _ => ⟨t, rfl⟩) (by kernel_rfl)
  intro k
  induction k with
  | zero =>
    intro i s s₀ hik G gk
    have hik' : i = m := by omega
    subst hik'
    refine start _ i s (Nat.le_refl _) G gk fun s3 F3 G3 gk3 => ?_
    rw [hend] at F3
    refine seg_execs_cons (seg_wrap (ex_if (b := true) (ts_cmp (eiv F3) (ecm G3.x) cm_eq_int) F3.tk fun s4 k4 => wpAny_execs_cons (wpAny_Return_none ?_)))
    refine seg_leaf (r := .ok (.ret .none)) ?_
    show Seg (model PW w) A (GR hb env.locals) (GY h₀ hb env.locals ax sz i) 0 s₀ c (K' (.ret .none)) [] s4
    rw [hK]
    exact seg_end (.ok (.ret .none)) ⟨rfl, rfl, gk3.trans (GK.kp k4)⟩
  | succ k ih =>
    intro i s s₀ hik G gk
    refine start _ i s (by omega) G gk fun s3 F3 G3 gk3 => ?_
    obtain ⟨n127, n0⟩ := hv i (by omega)
    generalize hx : sz.getD i 0 = x at *
    have b127 : (x == (127 : Int)) = false := by simpa using n127
    have b0 : (x == (0 : Int)) = false := by simpa using n0
    refine seg_execs_cons (seg_wrap (ex_if (b := false) (b127 ▸ ts_cmp (eiv F3) (ecm G3.x) cm_eq_int) F3.tk fun s4 k4 => wpAny_execs_nil ?_))
    refine seg_execs_cons (seg_wrap (ex_if (b := false) (b0 ▸ ts_cmp (eiv (F3.kp k4)) ev_int cm_eq_int) (F3.kp k4).tk fun s5 k5 => wpAny_execs_nil ?_))
    have F5 := (F3.kp k4).kp k5
    have G5 := (G3.kp k4).kp k5
    refine seg_execs_cons (seg_Expr_Yield rfl rfl rfl ((eiv F5).use (Ext.refl _) F5.tk fun v s6 rv k6 => ?_) K.co K.ia)
    obtain ⟨t, rfl⟩ := rv
    intro kap hkap
    obtain ⟨mi, hni, hmi⟩ := (F5.kp k6).ns
    obtain ⟨vi, hvi, rvi⟩ := hmi "interval" (.int x) (by rfl)
    simp only [RepP] at rvi
    obtain ⟨ti, rfl⟩ := rvi
    refine ⟨I, i, by omega, ⟨t, by rw [hx]⟩, hIb, (gk3.trans (GK.kp k4)).trans ((GK.kp k5).trans (GK.kp k6)), ⟨G5.kp k6, mi, x, ti, hni, hvi⟩, fun s'' G'' => hkap _ _ ?_⟩
    obtain ⟨Gl, m7, n7, t7, hn7, hv7⟩ := G''
    have F7 : T55.Fr env [("interval", .int n7)] s'' := ⟨⟨m7, hn7, fun y d hy => by
      simp only [List.lookup_cons, List.lookup_nil] at hy
      split at hy
      · rename_i e
        cases hy
        rw [eq_of_beq e]
        exact ⟨_, hv7, t7, rfl⟩
      · cases hy⟩, Gl.tk⟩
    show Seg (model PW w) A (GR hb env.locals) (GY h₀ hb env.locals ax sz m) k s'' _ ((execs [_] env).wrap _ _ _ _) _ s''
    refine seg_execs_cons (seg_wrap (ex_assign (d := .int n7) F7 ((F7.ev (by rfl) K.F K.iv (by kernel_rfl)).imm trivial) K.la K.F fun s8 F8 t8 => ?_))
    refine seg_execs_nil (seg_again (by rfl) ?_)
    exact ih (i + 1) s8 s'' (by omega) (Gl.of_tk hIC hC t8) (GK.tk t8)
end T55

end
section
open PySem PySem.W PyProof.Rows PySem.Calls
namespace T55
set_option maxRecDepth 100000
set_option linter.unusedVariables false
variable {w : World} {A : Around} {env : Env}
theorem gen_start {sz : List Int} {m : Nat} {h₀ hb : Heap} {ax : Addr} {vs : List Value} {s : Shared} (K : KG env) (hh : A.handled = none) (hl : h₀.IsList ax vs.toArray) (hr : RepL h₀ (pInts sz) vs) (hC : h₀.get? env.locals = none)
    (X : Ext (HZ w.params) h₀) (hm : m < sz.length) (hv : ∀ i, i < m → sz.getD i 0 ≠ 127 ∧ sz.getD i 0 ≠ 0) (hend : sz.getD m 0 = 127)
    (hx : Ext h₀ s.heap) (F : T55.Fr env [("grouping", .adr ax)] s) (hbs : ∀ b, (hb.get? b).isSome = true → (s.heap.get? b).isSome = true) :
    Seg (model PW w) A (GR hb env.locals) (GY h₀ hb env.locals ax sz m) m s (.func (bodyOf 8) env) ((model PW w).den (.func (bodyOf 8) env)) [] s := by
  refine seg_func ?_
  conv in (execs (bodyOf 8) env) => arg 1; whnf
  refine seg_execs_cons (seg_wrap (ex_assign (d := .none) F (EvP.imm ev_none trivial) K.la K.F fun s2 F2 t2 => ?_))
  have x2 : Ext h₀ s2.heap := t2.ext hC hx
  refine seg_execs_cons (seg_For ((F2.ev (by rfl) K.F K.gr (by kernel_rfl)).use (d := .adr ax) (Ext.refl _) F2.tk fun v s3 rv k3 => ?_) (by intro _; rfl))
  simp only [Rep] at rv
  subst rv
  have x3 := x2.trans k3.ext
  refine wpAny_pyIter_list (hl.at fun o e => x3 _ _ e) fun p l => ?_
  have new : s3.heap.get? s3.heap.objs.size = none := Heap.get?_none_of_le (Nat.le_refl _)
  have kp : Kp s3 { s3 with heap := s3.heap.push { cls := .type "list_iterator", data := .fields #[.ref ax, .int 0 0] } } := Kp.push s3 _
  have F3 := F2.kp k3
  have alive : (s3.heap.get? env.locals).isSome = true := F3.isS
  refine gen_loop (I := s3.heap.objs.size) K hh hl hr (Nw.of x3 new) hC (fun e => by rw [← e, new] at alive; cases alive) ?_ X hm hv hend rfl rfl m 0 _ s (by omega) ⟨(F3.kp kp).ns', ⟨_, Heap.get?_push_size _ rfl, rfl, rfl⟩, x3.trans kp.ext, (F3.kp kp).tk⟩ ((GK.tk t2).trans ((GK.kp k3).trans (GK.kp kp)))
  cases e : hb.get? s3.heap.objs.size with
  | none => rfl
  | some o =>
    have := hbs s3.heap.objs.size (by rw [e]; rfl)
    obtain ⟨o', ho'⟩ := Option.isSome_iff_exists.mp this
    have al2 : (s3.heap.get? s3.heap.objs.size).isSome = true := by
      by_cases hc : s3.heap.objs.size = env.locals
      · rw [hc]; exact alive
      · rw [k3.ext _ _ (t2.get hc ho')]; rfl
    rw [new] at al2; cases al2
end T55

end
section
open PySem PySem.W PyProof.Rows PySem.Calls
namespace T55
set_option maxRecDepth 100000
set_option linter.unusedVariables false
variable {w : World} {A : Around} {env : Env} {h₁ : Heap} {s : Shared} {ρ : List (Str × PV)} {E : Value → Shared → Prop} {Q : Flow → Shared → Prop}
/-- kept but for M, and for the generators -/
noncomputable def KH (M : List Addr) (s s' : Shared) : Prop := ∃ h' tk gs, s' = { s with heap := h', toks := tk, gens := gs } ∧ (∀ b o, b ∉ M → s.heap.get? b = some o → h'.get? b = some o) ∧ s.toks ≤ tk
theorem KH.refl (M : List Addr) (s : Shared) : KH M s s := ⟨s.heap, s.toks, s.gens, rfl, fun _ _ _ e => e, Nat.le_refl _⟩
theorem KH.trans {M : List Addr} {s s' s'' : Shared} (a : KH M s s') (b : KH M s' s'') : KH M s s'' := by
  obtain ⟨h1, t1, g1, rfl, e1, l1⟩ := a
  obtain ⟨h2, t2, g2, rfl, e2, l2⟩ := b
  exact ⟨h2, t2, g2, rfl, fun b o x e => e2 b o x (e1 b o x e), Nat.le_trans l1 l2⟩
theorem KH.of_km {M : List Addr} {s s' : Shared} (a : KM M s s') : KH M s s' := by
  obtain ⟨h1, t1, rfl, e1, n1, l1⟩ := a
  exact ⟨h1, t1, s.gens, rfl, e1, l1⟩
theorem KH.of_kp {M : List Addr} {s s' : Shared} (a : Kp s s') : KH M s s' := KH.of_km (KM.of_kp a)
theorem KH.of_tk {M : List Addr} {L : Addr} {s s' : Shared} (hL : L ∈ M) (a : TK L s s') : KH M s s' := KH.of_km (KM.of_tk hL a)
theorem KH.get {M : List Addr} {s s' : Shared} (k : KH M s s') {b : Addr} {o : Obj} (ne : b ∉ M) (e : s.heap.get? b = some o) : s'.heap.get? b = some o := by
  obtain ⟨h1, t1, g1, rfl, e1, l1⟩ := k
  exact e1 _ _ ne e
theorem KH.ext {M : List Addr} {s s' : Shared} {h : Heap} (k : KH M s s') (hM : ∀ b ∈ M, h.get? b = none) (x : Ext h s.heap) : Ext h s'.heap := fun b o e => k.get (fun hb => by rw [hM b hb] at e; cases e) (x b o e)
/-- a call whose answer is told by hand -/
theorem ev_callG {x : Str} {p pos : Pos} {args : List Expr} {f : Value} {ds : List PV} {Q : Value → Shared → Prop} (hf : NmP w A env h₁ (.Name x p) f) (hk : KeepsP h₁ f) (ha : ArgsP w A env h₁ args ds) (hne : args ≠ []) (k : Ext h₁ s.heap) (t : 1 ≤ s.toks)
    (hc : ∀ s₁ vs, Kp s s₁ → RepL s₁.heap ds vs → wpAny (model PW w) A (call f vs) Q E s₁) :
    wpAny (model PW w) A (eval (.Call (.Name x p) args [] pos) env) Q E s := by
  refine wpAny_Call_NameR (hf.run s _ _ k ?_)
  refine callWith_of (P := fun h => Ext h₁ h) (by rw [backTo_plain ha]; rfl) (fun h x => hk _ h x) ?_
  cases args with
  | nil => exact absurd rfl hne
  | cons e es =>
    cases ds with
    | nil => exact ha.elim
    | cons d0 ds =>
      have hp := ha.1 es
      have run := ha.run (pos := pos) s (E := E) k t
      rw [hp] at run ⊢
      exact evalArgs_plain (wp_use run fun vs s₁ r q => ⟨k.trans q.ext, hc s₁ vs q r⟩)
/-- x, y = a new list, e -/
theorem sq_tup2L {x y : Str} {e1 e2 : Expr} {p1 p2 tp vp pos : Pos} {k kv : Nat} {rest : List Stmt} {ds : List PV} {d2 : PV} (hh : A.handled = none) (F : T55.Fr env ρ s) (hi : ImmL ds) (h1 : EvF w A env s.heap e1 (.list ds)) (h2 : EvF w A env s.heap e2 d2)
    (hx : env.kindOf x = some .local) (hy : env.kindOf y = some .local) (hk : env.scope.kind = .function)
    (hq : ∀ s' r, s.heap.get? r = none → r ≠ env.locals → T55.Fr env ((x, .adr r) :: (y, d2) :: ρ) s' → LstO r ds s' → TK env.locals s s' → Sq w A env rest Q E s')
    (hs : swapsWithSole [.Tuple [.Name x p1, .Name y p2] k tp] (.Tuple [e1, e2] kv vp) pos.line env = pure false)
    (hw : swappedStores [.Tuple [.Name x p1, .Name y p2] k tp] (.Tuple [e1, e2] kv vp) env = pure (some [x, y]))
    (hs1 : ∀ rest, starEach (e1 :: rest) env = (false, eval e1 env) :: starEach rest env := by intro _; rfl) (hs2 : ∀ rest, starEach (e2 :: rest) env = (false, eval e2 env) :: starEach rest env := by intro _; rfl) :
    Sq w A env (.Assign [.Tuple [.Name x p1, .Name y p2] k tp] (.Tuple [e1, e2] kv vp) pos :: rest) Q E s := by
  refine .mk (wpAny_execs_cons (Assign_Tuple_swapped (names := [x, y]) (wpAny_Tuple_spliced (wpAny_items_cons (wp_use (h1.run s E (Ext.refl _) F.tk) fun v1 s₁ r1 q1 =>
    wpAny_items_cons (wp_use (h2.run s₁ E q1.ext (Nat.le_trans F.tk q1.toks)) fun v2 s₂ r2 q2 => wpAny_items_nil ?_) (hs2 [])) (hs1 _))) hs hw))
  refine ⟨by rw [sizeLine_eq]; show 2 ≤ 16777216; decide, ?_⟩
  have kk := q1.trans q2
  obtain ⟨r, vs, rfl, nr, ⟨n, pl⟩, rl⟩ := r1
  have ne : r ≠ env.locals := F.nL r nr
  have ht : (s₂.heap.push { cls := .type "tuple", data := .seq [Value.ref r, v2].toArray }).IsTuple s₂.heap.objs.size #[.ref r, v2] := ⟨_, Heap.get?_push_size _ rfl, rfl, _, rfl⟩
  refine wpAny_unpackItems_tuple (t := s₂.heap.objs.size) (items := #[.ref r, v2]) hh ht fun h3 he => ?_
  have up : ∀ b o, s₂.heap.get? b = some o → h3.get? b = some o := fun b o e => he b o (by
      show b ≠ (Heap.push _ _).objs.size
      rw [Heap.size_push]; exact Nat.ne_of_lt (Nat.lt_succ_of_lt (Heap.lt_size e))) (Heap.get?_push_of_some _ e)
  have k3 : Kp s { s₂ with heap := h3 } := by
    obtain ⟨h2', t2', rfl, x2, l2⟩ := kk
    exact ⟨h3, t2', rfl, fun b o e => up b o (x2 b o e), l2⟩
  have F3 := F.kp k3
  have rv2 : RepP (fun b => b ≠ env.locals) h3 d2 v2 := r2.imp (fun b hb => F.nL b (Nw.of q1.ext hb)) fun b o _ e => up b o e
  obtain ⟨m, hns, _⟩ := id F3.ns
  show wpAny _ _ (assignInOrder [fun v => bindName env y v, fun v => bindName env x v] [v2, .ref r]) _ _ _
  refine wpAny_assignInOrder_more (wpAny_bindName (wpAny_storeName_local hy hns (fun h4 hn4 sb4 => ?_) (by rw [hk]; rfl)))
  obtain ⟨F4, t4⟩ := F3.put rv2 hns hn4 sb4 _ (Nat.le_succ _)
  refine wpAny_assignInOrder_more (wpAny_bindName (wpAny_storeName_local hx hn4 (fun h5 hn5 sb5 => ?_) (by rw [hk]; rfl)))
  obtain ⟨F5, t5⟩ := F4.put (d := .adr r) (v := .ref r) (by simp [RepP]) hn4 hn5 sb5 _ (Nat.le_succ _)
  refine wpAny_assignInOrder_none ?_
  refine (hq _ r nr ne F5 ⟨hi, vs, ⟨n, sb5.extBut _ _ ne (sb4.extBut _ _ ne (up _ _ (q2.ext _ _ pl)))⟩, RepL.immAny hi rl.rep⟩ (TK.kp_left k3 (t4.trans t5))).run
/-- x.append(e), x a list held by a name -/
theorem st_append {x : Str} {r : Addr} {ds : List PV} {e : Expr} {p apos pos spos : Pos} {d : PV} {Q : Flow → Shared → Prop} (t : 1 ≤ s.toks) (R : LstO r ds s) (hx : EvP w A env s.heap (.Name x p) (.adr r))
    (hsz : ds.length ≤ 1000) (he : EvP w A env s.heap e d) (hd' : Imm d)
    (hq : ∀ s', LstO r (ds ++ [d]) s' → KM [r] s s' → Q .next s') (hia : interactive env = false)
    (hfew : ((backTo pos (starEach [e] env)).all (fun x => !x.1) && (backToKw pos (keywordEach [] env)).all (fun x => x.1.isSome)
      && decide (([e] : List Expr).length + ([] : List Keyword).length + (if ([] : List Keyword).isEmpty then 0 else 1) < 30)) = true)
    (htrees : backTo pos (starEach [e] env) = [(false, eval e env)])
    (hline : (apos.endLine == pos.line) = true) (hbase : attributeBase (.Name x p) "append" env (eval (.Name x p) env) = eval (.Name x p) env := by rfl) :
    wpAny (model PW w) A (exec (.Expr (.Call (.Attribute (.Name x p) "append" apos) [e] [] pos) spos) env) Q E s := by
  refine wpAny_Expr (wpAny_Call_append hbase hfew hline htrees (hx.use (Ext.refl _) t fun v s₁ rv k1 => ?_)) hia rfl
  simp only [Rep] at rv
  subst rv
  have R1 := R.kp k1
  obtain ⟨vs, ⟨n, hv⟩, hr⟩ := R1.pl
  refine ⟨r, vs.toArray, rfl, ⟨_, n, hv, rfl, rfl, rfl⟩, he.use k1.ext (Nat.le_trans t k1.toks) fun y s₂ ry k2 => ?_⟩
  have R2 := R1.kp k2
  obtain ⟨vs2, hv2, hr2⟩ := R2.pl
  have hlen : vs2.toArray.size ≤ sizeLine := by rw [List.size_toArray, hr2.length, sizeLine_eq]; omega
  refine wpAny_list_append_plain (hsz := hlen) hv2 fun h₅ hl₅ hs₅ => ?_
  have kk := k1.trans k2
  refine hq { s₂ with heap := h₅ } ⟨fun d' hd'' => ?_, vs2 ++ [y], by simpa using hl₅, RepL.snoc (RepL.immAny R.im hr2) (RepP.imm (k := fun _ => True) hd' ry).rep⟩ ((KM.of_kp kk).trans ⟨h₅, s₂.toks, rfl, fun b o hb e => hs₅.extBut b o (by simpa using hb) e, fun b hb e => ?_, Nat.le_refl _⟩)
  · rcases List.mem_append.mp hd'' with h | h
    · exact R.im d' h
    · simp at h; subst h; exact hd'
  · simp only [List.mem_singleton] at hb
    subst hb
    obtain ⟨n', e'⟩ := hl₅
    rw [e']; rfl
end T55

end
section
open PySem PySem.W PyProof.Rows PySem.Calls
namespace T55
set_option maxRecDepth 100000
set_option linter.unusedVariables false
variable {w : World} {A : Around} {env : Env} {h₁ : Heap} {s : Shared} {ρ : List (Str × PV)} {E : Value → Shared → Prop}
theorem kg (P : Params) (C : Addr) : KG (callEnv (fdOf (oC35 P)) C 35) := ⟨by kernel_rfl, by kernel_rfl, by kernel_rfl, by kernel_rfl, by kernel_rfl, by kernel_rfl, by kernel_rfl, by kernel_rfl, by kernel_rfl⟩
theorem gen_call {ax : Addr} {Q : Value → Shared → Prop} (X : Ext (HZ w.params) s.heap) (O : Ok A 1) (t : 1 ≤ s.toks)
    (hq : ∀ (C G : Addr) (h' : Heap) (tk : Nat), Ext s.heap h' → s.heap.get? C = none → s.heap.get? G = none → G ≠ C → s.toks ≤ tk → T55.Fr (callEnv (fdOf (oC35 w.params)) C 35) [("grouping", .adr ax)] { s with heap := h', toks := tk } → h'.IsGen G s.gens.size →
      Q (.ref G) { s with heap := h', toks := tk, gens := s.gens.push (.fresh (.func (bodyOf 8) (callEnv (fdOf (oC35 w.params)) C 35))) }) :
    wpAny (model PW w) A (call (.ref 35) [.ref ax]) Q E s := by
  obtain ⟨⟨o, ho, hd⟩, hcd⟩ := fn_grp w.params
  refine wpAny_call (codeAny_call_generator (by have := O.depth; omega) (X _ _ ho) hd (by kernel_rfl) (by kernel_rfl) (body := bodyOf 8) (by kernel_rfl) (hcd.keeps fun _ _ e => X _ _ e) ?_)
  rw [show bindArgs (fdOf (oC35 w.params)) ⟨[Value.ref ax], []⟩ = pure [(("grouping" : Str), Value.ref ax)] by kernel_rfl]
  have hcell : (fdOf (oC35 w.params)).scope.names.all (fun x => x.2 != .cell) = true := by kernel_rfl
  have hloc : (fdOf (oC35 w.params)).scope.names.lookup ("grouping" : Str) = some .local := by kernel_rfl
  refine wpAny_pure (wpAny_newFunctionEnv (fun x hx => by have := List.all_eq_true.mp hcell x hx; simpa using this) (fun x hx => by simp at hx; subst hx; exact hloc) (fun H₁ hns hsb => ?_) (by kernel_rfl))
  have up : ∀ b o, s.heap.get? b = some o → H₁.get? b = some o := fun b o e => hsb.extBut b o (Nat.ne_of_lt (Heap.lt_size e)) (Heap.get?_push_of_some _ e)
  refine ⟨(noLim X).keeps up, ?_⟩
  have hC : s.heap.objs.size < H₁.objs.size := by
    obtain ⟨o, es, ep, ho, _⟩ := hns
    exact Heap.lt_size ho
  have hns' : (H₁.push { cls := .type "generator", data := .fields #[.int s.gens.size 0, .str (fdOf (oC35 w.params)).name (s.toks + 1), .str (fdOf (oC35 w.params)).qualname (s.toks + 1 + 1)] }).Ns s.heap.objs.size (fun x => [(("grouping" : Str), Value.ref ax)].reverse.lookup x) := hns.at fun o e => Heap.get?_push_of_some _ e
  refine hq s.heap.objs.size H₁.objs.size _ _ (fun b o e => Heap.get?_push_of_some _ (up b o e)) (Heap.get?_none_of_le (Nat.le_refl _)) (Heap.get?_none_of_le (Nat.le_of_lt hC)) (Nat.ne_of_gt hC) (Nat.le_succ_of_le (Nat.le_succ_of_le (Nat.le_succ _))) ?_ ⟨_, _, _, Heap.get?_push_size _ rfl, rfl, rfl, rfl⟩
  refine ⟨⟨_, hns', fun x d hx => ?_⟩, Nat.le_succ_of_le (Nat.le_succ_of_le (Nat.le_succ_of_le t))⟩
  simp only [List.lookup_cons, List.lookup_nil] at hx
  split at hx
  · rename_i e
    cases hx
    refine ⟨.ref ax, ?_, rfl⟩
    rw [eq_of_beq e]; rfl
  · cases hx
end T55

end
section
open PySem PySem.W PyProof.Rows PySem.Calls
namespace T55
set_option maxRecDepth 100000
set_option linter.unusedVariables false
variable {w : World} {A : Around} {env : Env} {h₁ : Heap} {s : Shared} {ρ : List (Str × PV)}
noncomputable def offs (ns : List Nat) (j : Nat) : Nat := (ns.take j).sum
noncomputable def pcs (ns : List Nat) (line : List Nat) (j : Nat) : List (List Nat) := (List.range j).map fun i => (line.drop (offs ns i)).take (ns.getD i 0)
noncomputable def szs (ns : List Nat) : List Int := ns.map (fun n : Nat => (n : Int)) ++ [127, 5]
theorem offs_succ (ns : List Nat) (j : Nat) (h : j < ns.length) : offs ns (j + 1) = offs ns j + ns.getD j 0 := by
  unfold offs
  rw [List.take_succ_eq_append_getElem h, List.sum_append]
  simp [List.getD_eq_getElem?_getD, h]
theorem offs_le (ns : List Nat) (j : Nat) : offs ns j ≤ ns.sum := by
  have := List.take_append_drop j ns
  have h2 : (ns.take j ++ ns.drop j).sum = ns.sum := by rw [this]
  rw [List.sum_append] at h2
  unfold offs; omega
theorem szs_at (ns : List Nat) (j : Nat) (h : j < ns.length) : (szs ns).getD j 0 = (ns.getD j 0 : Nat) := by
  rw [szs, List.getD_eq_getElem?_getD, List.getElem?_append_left (by simpa using h)]
  simp [List.getD_eq_getElem?_getD, h]
theorem szs_end (ns : List Nat) : (szs ns).getD ns.length 0 = 127 := by
  simp [szs, List.getD_eq_getElem?_getD]
theorem nat_mem {a : List Nat} {i : Nat} (h : i < a.length) : a.getD i 0 ∈ a := by
  have : a.getD i 0 = a[i] := by simp [List.getD_eq_getElem?_getD, h]
  rw [this]; exact List.getElem_mem h
theorem Fr.gens {g : Array GenState} (F : T55.Fr env ρ s) : T55.Fr env ρ { s with gens := g } := ⟨F.ns, F.tk⟩
structure KC (env : Env) : Prop where
  F : env.scope.kind = .function
  g : env.globals = 3
  b : env.builtins = 0
  line : env.kindOf "line" = some .local
  sizes : env.kindOf "sizes" = some .local
  pieces : env.kindOf "pieces" = some .local
  at' : env.kindOf "at" = some .local
  size : env.kindOf "size" = some .local
  grp : env.kindOf "_grouping_intervals" = some .globalImplicit
  eq : ∃ (P : Params) (L : Addr), env = callEnv (fdOf (oG139 P)) L 139
theorem kc (P : Params) (L : Addr) : KC (callEnv (fdOf (oG139 P)) L 139) := ⟨by kernel_rfl, by kernel_rfl, by kernel_rfl, by kernel_rfl, by kernel_rfl, by kernel_rfl, by kernel_rfl, by kernel_rfl, by kernel_rfl, P, L, rfl⟩
theorem KH.gk {M : List Addr} {C : Addr} {s3 s' s₁ : Shared} {g : Nat} {x y : GenState} (k : KH M s3 s') (hC : C ∈ M) (a : GK s3.heap C (s'.setGen g x) s₁) : KH M s3 (s₁.setGen g y) := by
  obtain ⟨h1, t1, g1, rfl, e1, l1⟩ := k
  obtain ⟨h2, t2, rfl, e2, l2⟩ := a
  exact ⟨h2, t2, _, rfl, fun b o hb e => e2 b o (by rw [e]; rfl) (fun q => hb (q ▸ hC)) (e1 b o hb e), Nat.le_trans l1 l2⟩
theorem KH.km {M M' : List Addr} {s s' s'' : Shared} (a : KH M s s') (b : KM M' s' s'') (h : ∀ x ∈ M', x ∈ M) : KH M s s'' := a.trans (KH.of_km (b.mono h))
/-- the generator between the loop's turns -/
noncomputable def CutG (w : World) (A : Around) (h₀ hb : Heap) (C ax : Addr) (sz : List Int) (m : Nat) (s3 : Shared) (j : Nat) (gs : GenState) (s' : Shared) : Prop :=
  (j = 0 ∧ s' = s3) ∨ (∃ I, hb.get? I = none ∧ GI h₀ C ax I j s' ∧ ∀ s'', GI h₀ C ax I j s'' → gs.Goes (model PW w) A.in1 (GR hb C) (GY h₀ hb C ax sz m) (m - j) (.send .none) s'')
theorem cut_body {ns line : List Nat} {ax : Addr} {us : List Value} {E : Value → Shared → Prop} (K : KC env) (hv : ∀ n ∈ ns, n ≠ 0 ∧ n ≠ 127) (hsum : ns.sum ≤ line.length) (hz : line.length ≤ 1000) (hns : ns.length ≤ 100) (X : Ext (HZ w.params) s.heap) (hzL : (HZ w.params).get? env.locals = none) (O : Ok A 1)
    (F : T55.Fr env [("line", .str (tx line)), ("sizes", .adr ax)] s) (hax : s.heap.PlainList ax us.toArray) (hr : RepL s.heap (pInts (szs ns)) us) :
    Sq w A env (bodyOf 21) (fun f s' => ∃ v, f = .ret v ∧ Rep s'.heap (.list (txs (pcs ns line ns.length))) v ∧ KH [env.locals] s s' ∧ (AllBare s.gens → AllBare s'.gens)) E s := by
  conv in (bodyOf 21) => whnf
  refine sq_tup2L O.handled F (ds := []) (d2 := .int 0) (by intro d hd; cases hd) (ev_listF args_nil (by intro d hd; cases hd) (by decide)) (ev_int.imm trivial) K.pieces K.at' K.F (fun s1 r hr0 ne F1 R1 t1 => ?_) (by kernel_rfl) (by obtain ⟨P, L, e⟩ := K.eq; rw [e]; kernel_rfl)
  have X1 := t1.ext hzL X
  have hzr : (HZ w.params).get? r = none := Nw.of X hr0
  refine .mk (wpAny_execs_cons (wpAny_For (ev_callG (ds := [.adr ax]) (nm_global (⟨K.g, K.b, K.F, X1⟩ : GE w env s1.heap) K.grp (g_grp w.params) (by kernel_rfl)) ((fn_grp w.params).keeps X1) (args_cons (F1.ev (by rfl) K.F K.sizes (by kernel_rfl)) args_nil) (by simp) (Ext.refl _) F1.tk fun s2 vs k2 r2 => ?_) (by intro _; rfl)))
  obtain ⟨v, us', rfl, rv, r0⟩ := r2
  simp only [RepL] at r0; subst r0
  simp only [Rep] at rv; subst rv
  have X2 := X1.trans k2.ext
  refine gen_call X2 O (Nat.le_trans F1.tk k2.toks) fun C G h' tk x2 hC hG hGC le FG hIG => wpAny_pyIter_gen hIG ?_
  obtain ⟨s3, hs3⟩ : ∃ s3 : Shared, s3 = { s2 with heap := h', toks := tk, gens := s2.gens.push (.fresh (.func (bodyOf 8) (callEnv (fdOf (oC35 w.params)) C 35))) } := ⟨_, rfl⟩
  rw [← hs3]
  have e3h : s3.heap = h' := by rw [hs3]
  have e3g : s3.gens[s2.gens.size]? = some (.fresh (.func (bodyOf 8) (callEnv (fdOf (oC35 w.params)) C 35))) := by rw [hs3]; simp
  have e3t : s2.toks ≤ s3.toks := by rw [hs3]; exact le
  have ex3 : Ext s2.heap s3.heap := e3h ▸ x2
  have F3 : T55.Fr env [("pieces", .adr r), ("at", .int 0), ("line", .str (tx line)), ("sizes", .adr ax)] s3 := by
    have := (F1.kp k2).kp (⟨h', tk, rfl, x2, le⟩ : Kp s2 { s2 with heap := h', toks := tk })
    rw [hs3]; exact this.gens
  have R3 : LstO r [] s3 := (R1.kp k2).get fun o e => ex3 _ _ e
  have FG3 : T55.Fr (callEnv (fdOf (oC35 w.params)) C 35) [("grouping", .adr ax)] s3 := by rw [hs3]; exact FG.gens
  have IG3 : s3.heap.IsGen G s2.gens.size := e3h ▸ hIG
  have a2L : (s2.heap.get? env.locals).isSome = true := (F1.kp k2).isS
  have a2r : (s2.heap.get? r).isSome = true := (R1.kp k2).isS
  have nCL : C ≠ env.locals := fun e => by rw [← e, hC] at a2L; cases a2L
  have nCr : C ≠ r := fun e => by rw [← e, hC] at a2r; cases a2r
  have nGL : G ≠ env.locals := fun e => by rw [← e, hG] at a2L; cases a2L
  have nGr : G ≠ r := fun e => by rw [← e, hG] at a2r; cases a2r
  have hzC : (HZ w.params).get? C = none := Nw.of X2 hC
  generalize hGE : callEnv (fdOf (oC35 w.params)) C 35 = genv at *
  have KGe : KG genv := hGE ▸ kg w.params C
  have gL : genv.locals = C := by rw [← hGE]; rfl
  -- the heap without what changes
  have aax : (s.heap.get? ax).isSome = true := by obtain ⟨n, h⟩ := hax; rw [h]; rfl
  have hax2 : s2.heap.PlainList ax us.toArray := by
    have h1 : s1.heap.PlainList ax us.toArray := hax.at fun o e => t1.get (fun q => by
      obtain ⟨m, ⟨o', es, ep, ho', hd', _⟩, _⟩ := F.ns
      obtain ⟨n, ho⟩ := hax
      rw [q, ho'] at ho; cases ho; cases hd') e
    exact h1.at fun o e => k2.ext _ _ e
  have nax : ax ∉ [env.locals, r] := fun hm => by
    simp only [List.mem_cons, List.not_mem_nil, or_false] at hm
    rcases hm with q | q
    · obtain ⟨m, ⟨o', es, ep, ho', hd', _⟩, _⟩ := F.ns
      obtain ⟨n, ho⟩ := hax
      rw [q, ho'] at ho; cases ho; cases hd'
    · rw [q, hr0] at aax; cases aax
  have hl0 : (del [env.locals, r] s2.heap).IsList ax us.toArray := hax2.isList.at fun o e => by rw [del_not nax]; exact e
  have hr0' : RepL (del [env.locals, r] s2.heap) (pInts (szs ns)) us := RepL.immAny (imm_ints _) hr
  have hC0 : (del [env.locals, r] s2.heap).get? C = none := Nw.of (del_ext _ _) hC
  have XZ : Ext (HZ w.params) (del [env.locals, r] s2.heap) := fun b o e => by
    rw [del_not (fun hm => by
      simp only [List.mem_cons, List.not_mem_nil, or_false] at hm
      rcases hm with rfl | rfl
      · rw [hzL] at e; cases e
      · rw [hzr] at e; cases e)]
    exact X2 b o e
  have x03 : Ext (del [env.locals, r] s2.heap) s3.heap := (del_ext _ _).trans ex3
  have hzM : ∀ b ∈ [env.locals, r, C], (HZ w.params).get? b = none := fun b hb => by
    simp only [List.mem_cons, List.not_mem_nil, or_false] at hb
    rcases hb with rfl | rfl | rfl
    · exact hzL
    · exact hzr
    · exact hzC
  have h0M : ∀ b ∈ [env.locals, r, C], (del [env.locals, r] s2.heap).get? b = none := fun b hb => by
    simp only [List.mem_cons, List.not_mem_nil, or_false] at hb
    rcases hb with rfl | rfl | rfl
    · exact del_mem (by simp)
    · exact del_mem (by simp)
    · exact hC0
  have slen : ns.length < (szs ns).length := by simp [szs]
  have hvs : ∀ i, i < ns.length → (szs ns).getD i 0 ≠ 127 ∧ (szs ns).getD i 0 ≠ 0 := fun i hi => by
    rw [szs_at _ _ hi]
    have hm : ns.getD i 0 ∈ ns := nat_mem hi
    have := hv _ hm
    omega
  generalize hH0 : del [env.locals, r] s2.heap = h₀ at *
  refine codeAny_forLoop_any (fun n s' => ∃ j gs, j ≤ ns.length ∧ n = ns.length + 1 - j ∧ s'.gens[s2.gens.size]? = some gs ∧ T55.Fr env [("at", .int (offs ns j : Nat)), ("pieces", .adr r), ("line", .str (tx line))] s' ∧
      LstO r (txs (pcs ns line j)) s' ∧ KH [env.locals, r, C] s3 s' ∧ (∀ i, i ≠ s2.gens.size → s'.gens[i]? = s3.gens[i]?) ∧ CutG w A h₀ s3.heap C ax (szs ns) ns.length s3 j gs s') (fun n s' hI => ?_) (ns.length + 1)
    ⟨0, _, Nat.zero_le _, rfl, e3g, F3.sub ⟨by rfl, by rfl, by rfl, trivial⟩, R3, KH.refl _ _, fun _ _ => rfl, .inl ⟨rfl, rfl⟩⟩
  obtain ⟨j, gs, hj, rfl, hgs, Fj, Rj, kj, gj, cg⟩ := hI
  have Xj : Ext (HZ w.params) s'.heap := kj.ext hzM (X2.trans ex3)
  have IGj : s'.heap.IsGen G s2.gens.size := by
    obtain ⟨o, nm, qn, ho, rest⟩ := IG3
    exact ⟨o, nm, qn, kj.get (by simp [nGL, nGr, hGC]) ho, rest⟩
  have hgo : gs.Goes (model PW w) A.in1 (GR s3.heap C) (GY h₀ s3.heap C ax (szs ns) ns.length) (ns.length - j) (.send .none) (s'.setGen s2.gens.size .running) := by
    rcases cg with ⟨rfl, rfl⟩ | ⟨I, hI, gi, go⟩
    · rw [e3g] at hgs
      cases hgs
      refine ⟨rfl, ?_⟩
      have := gen_start (w := w) (A := A.in1) (m := ns.length) (hb := s'.heap) (h₀ := h₀) (ax := ax) (s := s'.setGen s2.gens.size .running) KGe O.handled hl0 hr0' (by rw [gL]; exact hC0) XZ slen hvs (szs_end ns) x03 FG3.gens (fun b hb => hb)
      rw [gL] at this
      exact this
    · exact go _ (gi.km (fun _ e => e) (fun _ e => e) gi.gl.x (Nat.le_refl _))
  refine wpAny_pyNext_gen (P := fun n s₀ s₁ => n = 0 ∧ GK s3.heap C s₀ s₁) O.handled (noLim Xj) (by have := O.depth; omega) IGj hgs hgo (fun v s₁ gs' hY => ?_) (fun s₁ hP h'' hk => ?_)
  · obtain ⟨I, i, hi, ⟨t, rfl⟩, hI, gk, gi, go⟩ := hY
    rcases Nat.eq_zero_or_pos (ns.length - j) with h0 | hpos
    · rw [h0] at go
      exact (go s₁ gi).elim
    obtain ⟨q, hq⟩ : ∃ q, ns.length - j = q + 1 := ⟨ns.length - j - 1, by omega⟩
    rw [hq] at go hi
    have hij : i = j := by omega
    subst hij
    have hjn : i < ns.length := by omega
    have hgsz : s2.gens.size < s'.gens.size := (Array.getElem?_eq_some_iff.mp hgs).1
    have gs3 : (s₁.setGen s2.gens.size gs').gens[s2.gens.size]? = some gs' := by
      obtain ⟨h2, t2, rfl, _⟩ := gk
      show ((s'.gens.setIfInBounds s2.gens.size .running).setIfInBounds s2.gens.size gs')[s2.gens.size]? = some gs'
      simp [hgsz]
    have aL3 : (s3.heap.get? env.locals).isSome = true := by obtain ⟨o, ho⟩ := Option.isSome_iff_exists.mp a2L; rw [ex3 _ _ ho]; rfl
    have ar3 : (s3.heap.get? r).isSome = true := R3.isS
    obtain ⟨s4, hs4⟩ : ∃ s4, s4 = s₁.setGen s2.gens.size gs' := ⟨_, rfl⟩
    rw [← hs4] at gs3 ⊢
    have keep4 : ∀ b o, (s3.heap.get? b).isSome = true → b ≠ C → s'.heap.get? b = some o → s4.heap.get? b = some o := fun b o x y e => by
      obtain ⟨h2, t2, rfl, e2, l2⟩ := gk
      rw [hs4]; exact e2 b o x y e
    have F4 : T55.Fr env [("at", .int (offs ns i : Nat)), ("pieces", .adr r), ("line", .str (tx line))] s4 := by
      obtain ⟨h2, t2, rfl, e2, l2⟩ := gk
      rw [hs4]
      exact (Fj.stab (h' := h2) (tk := t2) (imm3 (by simp [Imm])) (fun o e => e2 _ _ aL3 (Ne.symm nCL) e) l2).gens
    have R4 : LstO r (txs (pcs ns line i)) s4 := Rj.get fun o e => keep4 _ _ ar3 (Ne.symm nCr) e
    have k4 : KH [env.locals, r, C] s3 s4 := hs4 ▸ kj.gk (by simp) gk
    have gi4 : GI h₀ C ax I (i + 1) s4 := by rw [hs4]; exact gi.km (fun _ e => e) (fun _ e => e) gi.gl.x (Nat.le_refl _)
    rw [szs_at _ _ hjn]
    show wpAny (model PW w) A (pure ()) _ _ s4
    refine wpAny_pure (as_name (d := .int ((ns.getD i 0 : Nat) : Int)) F4 ⟨t, rfl⟩ K.size K.F fun s5 F5 t5 => ?_)
    have R5 := R4.tk ne t5
    have hsl := slice_mid line (offs ns i) (offs ns i + ns.getD i 0) (Nat.le_add_right _ _) (by have := offs_succ ns i hjn; have := offs_le ns (i + 1); omega)
    have ecast : ((offs ns i : Nat) : Int) + ((ns.getD i 0 : Nat) : Int) = ((offs ns i + ns.getD i 0 : Nat) : Int) := by omega
    rw [Nat.add_sub_cancel_left] at hsl
    have hat : ∀ {p : Pos}, EvP w A env s5.heap (.Name "at" p) (.int (offs ns i : Nat)) := F5.ev (by rfl) K.F K.at' (by kernel_rfl)
    have hsz : ∀ {p : Pos}, EvP w A env s5.heap (.Name "size" p) (.int (ns.getD i 0 : Nat)) := F5.ev (by rfl) K.F K.size (by kernel_rfl)
    refine wpAny_execs_cons (st_append (d := .str (tx ((line.drop (offs ns i)).take (ns.getD i 0)))) F5.tk R5 (F5.ev (by rfl) K.F K.pieces (by kernel_rfl)) (by simp [txs, pcs]; omega)
      (hsl ▸ ev_slice_str (F5.ev (by rfl) K.F K.line (by kernel_rfl)) (part_some hat) (part_some (ecast ▸ ev_bin hat hsz op_add_int)) (by rw [tx_len, sizeLine_eq]; omega)) trivial (fun s6 R6 k6 => ?_) (by unfold interactive; rw [K.F]; rfl) (by rfl) (by rfl) (by kernel_rfl))
    have F6 : T55.Fr env [("size", .int (ns.getD i 0 : Nat)), ("at", .int (offs ns i : Nat)), ("pieces", .adr r), ("line", .str (tx line))] s6 := by
      obtain ⟨h6, t6, rfl, e6, _, l6⟩ := k6
      exact F5.stab (imm3 (by simp [Imm])) (fun o e => e6 _ _ (by simp; exact Ne.symm ne) e) l6
    refine (sq_assign (d := .int ((offs ns i + ns.getD i 0 : Nat) : Int)) F6 (EvP.imm (ecast ▸ ev_bin (F6.ev (by rfl) K.F K.at' (by kernel_rfl)) (F6.ev (by rfl) K.F K.size (by kernel_rfl)) op_add_int) trivial) K.at' K.F (fun s7 F7 t7 => sq_nil ?_)).run
    have hpc : pcs ns line (i + 1) = pcs ns line i ++ [(line.drop (offs ns i)).take (ns.getD i 0)] := by simp [pcs, List.range_succ]
    have g7 : s7.gens[s2.gens.size]? = some gs' := by
      obtain ⟨_, _, rfl, _⟩ := t5
      obtain ⟨_, _, rfl, _⟩ := k6
      obtain ⟨_, _, rfl, _⟩ := t7
      exact gs3
    have k47 : KM [env.locals, r] s4 s7 := ((KM.of_tk (by simp) t5).trans (k6.mono (by simp))).trans (KM.of_tk (by simp) t7)
    refine ⟨ns.length + 1 - (i + 1), by omega, i + 1, gs', hjn, rfl, g7, ?_, ?_, k4.km k47 (by simp), fun i' hi' => ?_, .inr ⟨I, hI, ?_, ?_⟩⟩
    · rw [offs_succ ns i hjn]
      exact F7.sub ⟨by rfl, by rfl, by rfl, trivial⟩
    · have := R6.tk ne t7
      rw [hpc]
      simpa [txs] using this
    · rw [← gj i' hi']
      obtain ⟨_, _, rfl, _⟩ := t5
      obtain ⟨_, _, rfl, _⟩ := k6
      obtain ⟨_, _, rfl, _⟩ := t7
      show s4.gens[i']? = _
      rw [hs4]
      obtain ⟨h2, t2, rfl, _⟩ := gk
      show ((s'.gens.setIfInBounds s2.gens.size .running).setIfInBounds s2.gens.size gs')[i']? = _
      rw [Array.getElem?_setIfInBounds_ne (Ne.symm hi'), Array.getElem?_setIfInBounds_ne (Ne.symm hi')]
    · have nI : I ∉ [env.locals, r] := fun hm => by
        simp only [List.mem_cons, List.not_mem_nil, or_false] at hm
        rcases hm with q | q
        · rw [← q, hI] at aL3; cases aL3
        · rw [← q, hI] at ar3; cases ar3
      have nC : C ∉ [env.locals, r] := by simp [nCL, nCr]
      exact gi4.km (fun o e => k47.get nC e) (fun o e => k47.get nI e) (k47.ext (fun b hb => h0M b (by simp at hb ⊢; rcases hb with rfl | rfl <;> simp)) gi4.gl.x) k47.toks
    · rw [show ns.length - (i + 1) = q by omega]
      exact go
  · obtain ⟨h0, gk⟩ := hP
    have hjn : j = ns.length := by omega
    subst hjn
    show wpAny (model PW w) A (execs [] env) _ _ _
    refine wpAny_execs_nil ?_
    have aL3 : (s3.heap.get? env.locals).isSome = true := by obtain ⟨o, ho⟩ := Option.isSome_iff_exists.mp a2L; rw [ex3 _ _ ho]; rfl
    have ar3 : (s3.heap.get? r).isSome = true := R3.isS
    obtain ⟨s8, hs8⟩ : ∃ s8 : Shared, s8 = { s₁.setGen s2.gens.size .finished with heap := h'' } := ⟨_, rfl⟩
    rw [← hs8]
    have k38 : KH [env.locals, r, C] s3 s8 := by
      have := kj.gk (y := .finished) (by simp) gk
      rw [hs8]
      exact this.trans ⟨h'', s₁.toks, _, rfl, fun b o _ e => hk b o e, Nat.le_refl _⟩
    have F8 : T55.Fr env [("at", .int (offs ns ns.length : Nat)), ("pieces", .adr r), ("line", .str (tx line))] s8 := by
      obtain ⟨h2, t2, rfl, e2, l2⟩ := gk
      rw [hs8]
      exact (Fj.stab (h' := h'') (tk := t2) (imm3 (by simp [Imm])) (fun o e => hk _ _ (e2 _ _ aL3 (Ne.symm nCL) e)) l2).gens
    have R8 : LstO r (txs (pcs ns line ns.length)) s8 := Rj.get fun o e => by
      obtain ⟨h2, t2, rfl, e2, l2⟩ := gk
      rw [hs8]
      exact hk _ _ (e2 _ _ ar3 (Ne.symm nCr) e)
    show wpAny (model PW w) A (execs [_] env) _ _ s8
    refine (sq_ret (R8.ev (F8.ev (by rfl) K.F K.pieces (by kernel_rfl))) F8.tk fun v s9 rv k9 => ⟨v, rfl, rv, ?_, fun hb => ?_⟩).run
    rotate_left
    · have e9 : s9.gens = s8.gens := by obtain ⟨_, _, rfl, _⟩ := k9; rfl
      rw [e9]
      have e8 : s8.gens = s₁.gens.setIfInBounds s2.gens.size .finished := by rw [hs8]; rfl
      have e1 : s₁.gens = s'.gens.setIfInBounds s2.gens.size .running := by obtain ⟨h2, t2, rfl, _⟩ := gk; rfl
      have es2 : s2.gens = s.gens := by
        obtain ⟨_, _, rfl, _⟩ := k2
        obtain ⟨_, _, rfl, _⟩ := t1
        rfl
      intro y hy
      obtain ⟨i, hi, rfl⟩ := Array.mem_iff_getElem.mp hy
      by_cases e : i = s2.gens.size
      · have : s8.gens[i]? = some .finished := by
          rw [e8, e, Array.getElem?_setIfInBounds_self_of_lt]
          rw [e8, Array.size_setIfInBounds] at hi
          rw [← e]; exact hi
        rw [Array.getElem?_eq_getElem hi] at this
        injection this with this
        rw [this]; rfl
      · have : s8.gens[i]? = s3.gens[i]? := by
          rw [e8, e1, Array.getElem?_setIfInBounds_ne (Ne.symm e), Array.getElem?_setIfInBounds_ne (Ne.symm e), gj i e]
        rw [Array.getElem?_eq_getElem hi, hs3] at this
        have h3 := Array.mem_of_getElem? this.symm
        rcases Array.mem_push.mp h3 with h | h
        · rw [es2] at h; exact hb _ h
        · rw [h]; rfl
    have k3 : KH [env.locals] s s3 := by
      refine (KH.of_tk (by simp) t1).trans ((KH.of_kp k2).trans ?_)
      rw [hs3]
      exact ⟨h', tk, _, rfl, fun b o _ e => x2 b o e, le⟩
    have kall := k3.trans (KH.refl [env.locals] s3)
    obtain ⟨h3, t3, g3, rfl, e3, l3⟩ := k3
    obtain ⟨h8, t8, g8, rfl, e8, l8⟩ := k38.trans (KH.of_kp k9)
    refine ⟨h8, t8, g8, rfl, fun b o hb e => e8 b o (fun hm => ?_) (e3 b o hb e), Nat.le_trans l3 l8⟩
    simp only [List.mem_cons, List.not_mem_nil, or_false] at hm hb
    rcases hm with q | q | q
    · exact hb q
    · rw [q, hr0] at e; cases e
    · have : s.heap.get? C = none := by
        cases e' : s.heap.get? C with
        | none => rfl
        | some o' =>
          have h1 := k2.ext _ _ (t1.get nCL e')
          rw [hC] at h1; cases h1
      rw [q, this] at e; cases e
end T55

end
section
open PySem PySem.W PyProof.Rows PySem.Calls
namespace T55
set_option maxRecDepth 100000
set_option linter.unusedVariables false
variable {w : World} {A : Around} {env : Env} {h₁ : Heap} {s : Shared}
theorem cl_cut {ns line : List Nat} {vs : List Value} {E : Value → Shared → Prop} (hv : ∀ n ∈ ns, n ≠ 0 ∧ n ≠ 127) (hsum : ns.sum ≤ line.length) (hz : line.length ≤ 1000) (hns : ns.length ≤ 100) (X : Ext (HZ w.params) s.heap) (O : Ok A 2) (t : 1 ≤ s.toks)
    (r : RepL s.heap [.str (tx line), .list (pInts (szs ns))] vs) :
    wpAny (model PW w) A (call (.ref 139) vs) (fun v s' => Rep s'.heap (.list (txs (pcs ns line ns.length))) v ∧ KH [] s s' ∧ (AllBare s.gens → AllBare s'.gens)) E s := by
  obtain ⟨v1, vs1, rfl, r1, v2, vs2, rfl, r2, r0⟩ := r
  simp only [RepL] at r0; subst r0
  obtain ⟨ax, us, rfl, hax, hr⟩ := r2
  refine call_def (fn_cut w.params) X O (body := bodyOf 21) (binds := [("line", v1), ("sizes", .ref ax)]) (by kernel_rfl) (by kernel_rfl) (by kernel_rfl) (by kernel_rfl) (by kernel_rfl) (by kernel_rfl) (by kernel_rfl) fun h₀ E' hnS kk O' => ?_
  have hL : s.heap.get? s.heap.objs.size = none := Heap.get?_none_of_le (Nat.le_refl _)
  have F : T55.Fr (callEnv (fdOf (oG139 w.params)) s.heap.objs.size 139) [("line", .str (tx line)), ("sizes", .adr ax)] { s with heap := h₀, toks := s.toks + 2 } := by
    have := fr_init (env := callEnv (fdOf (oG139 w.params)) s.heap.objs.size 139) (s := s) (h₀ := h₀) (names := ["line", "sizes"]) (ds := [.str (tx line), .adr ax]) (vs := [v1, .ref ax]) (n := s.toks + 2) (L := s.heap.objs.size) rfl rfl (by decide) ⟨v1, _, rfl, r1, .ref ax, _, rfl, rfl, rfl⟩ hnS kk (by omega)
    exact this
  have key := cut_body (w := w) (A := A.deeper (callEnv (fdOf (oG139 w.params)) s.heap.objs.size 139)) (E := E') (kc w.params s.heap.objs.size) hv hsum hz hns (X.trans kk) (Nw.of X hL) O' F (hax.at fun o e => kk _ _ e) (RepL.immAny (imm_ints _) hr)
  refine wpAny_mono key.run (fun f s' z => ?_) fun _ _ e => e
  obtain ⟨v, rfl, rv, k, hb⟩ := z
  refine ⟨rv, ?_, hb⟩
  obtain ⟨h2, t2, g2, rfl, e2, l2⟩ := k
  refine ⟨h2, t2, g2, rfl, fun b o _ e => e2 b o (fun hm => ?_) (kk _ _ e), Nat.le_trans (Nat.le_add_right _ _) l2⟩
  simp only [List.mem_cons, List.not_mem_nil, or_false] at hm
  subst hm
  rw [show (callEnv (fdOf (oG139 w.params)) s.heap.objs.size 139).locals = s.heap.objs.size from rfl, hL] at e
  cases e
end T55

end
section
open PySem PySem.W PyProof.Rows PySem.Calls
namespace T55
set_option maxRecDepth 100000
set_option linter.unusedVariables false
variable {w : World} {A : Around} {env : Env} {h₁ : Heap} {s : Shared} {M : List Addr} {ρ : List (Str × PV)} {E : Value → Shared → Prop} {Q : Flow → Shared → Prop}
/-- a name's list, by its address -/
theorem FC.adr (F : FC env M ρ s) {x : Str} {ds : List PV} (hx : ρ.lookup x = some (.list ds)) (hl : Kl env x) :
    ∃ a, FC env M ((x, .adr a) :: ρ) s ∧ RepP (fun b => b ∉ M ∧ (s.heap.get? b).isSome = true) s.heap (.list ds) (.ref a) := by
  have key : ∃ a, (env.kindOf x = some .local → ∃ m, s.heap.Ns env.locals m ∧ m x = some (.ref a)) ∧ (env.kindOf x = some .cell → ∃ c, env.cells.lookup x = some c ∧ s.heap.IsCell c (some (.ref a))) ∧ RepP (fun b => b ∉ M ∧ (s.heap.get? b).isSome = true) s.heap (.list ds) (.ref a) := by
    rcases hl with hl | ⟨hl, _⟩
    · obtain ⟨m, hn, h⟩ := F.ns
      obtain ⟨v, hv, r⟩ := h x _ hx hl
      have r' := r.live
      obtain ⟨a, vs, rfl, _⟩ := id r
      exact ⟨a, fun _ => ⟨m, hn, hv⟩, fun e => (by rw [hl] at e; cases e), r'⟩
    · obtain ⟨c, v, hc, hi, r⟩ := F.cell x _ hx hl
      have r' := r.live
      obtain ⟨a, vs, rfl, _⟩ := id r
      exact ⟨a, fun e => (by rw [hl] at e; cases e), fun _ => ⟨c, hc, hi⟩, r'⟩
  obtain ⟨a, k1, k2, r⟩ := key
  refine ⟨a, ⟨?_, fun y d hy hly => ?_, F.live, F.apart, F.inM, F.all, F.tk⟩, r⟩
  · obtain ⟨m, hn, h⟩ := F.ns
    refine ⟨m, hn, fun y d hy hly => ?_⟩
    by_cases hyx : y = x
    · subst hyx
      simp at hy; subst hy
      obtain ⟨m', hn', hv⟩ := k1 hly
      have em : m' = m := by rw [hn'.eq_nsMap, hn.eq_nsMap]
      subst em
      exact ⟨_, hv, rfl⟩
    · have : (y == x) = false := by simpa using hyx
      rw [List.lookup_cons, this] at hy
      exact h y d hy hly
  · by_cases hyx : y = x
    · subst hyx
      simp at hy; subst hy
      obtain ⟨c, hc, hi⟩ := k2 hly
      exact ⟨c, _, hc, hi, rfl⟩
    · have : (y == x) = false := by simpa using hyx
      rw [List.lookup_cons, this] at hy
      exact F.cell y d hy hly
theorem EvP.lift {e : Expr} {a : Addr} {d : PV} (h : EvP w A env h₁ e (.adr a)) (r : Rep h₁ d (.ref a)) : EvP w A env h₁ e d := .mk fun s' E k t => h.use k t fun v s'' rv q => ⟨by
  simp only [Rep] at rv
  subst rv
  exact r.ext (k.trans q.ext), q⟩
theorem Cv.lift {x : Str} {a : Addr} {d : PV} (c : Cv env h₁ x (.adr a)) (r : Rep h₁ d (.ref a)) : Cv env h₁ x d := by
  obtain ⟨c, v, hc, hi, rv⟩ := c
  simp only [Rep] at rv
  subst rv
  exact ⟨c, _, hc, hi, r⟩
/-- the store of a loop's name -/
theorem as_nameC {x : Str} {p : Pos} {v : Value} {d : PV} {Q : Unit → Shared → Prop} (F : FC env M ρ s) (r : RepP (fun b => b ∉ M) s.heap d v) (hx : Kl env x) (hk : env.scope.kind = .function)
    (hq : ∀ s', FC env M ((x, d) :: ρ) s' → KM M s s' → Q () s') : wpAny (model PW w) A (assign (.Name x p) env v) Q E s :=
  assign_Name (F.set r hk hx hq)
/-- x = a new list, by its address, which may change from here -/
theorem sc_new {x : Str} {p pos : Pos} {e : Expr} {rest : List Stmt} {ds : List PV} (F : FC env M ρ s) (hi : ImmL ds) (h : EvF w A env s.heap e (.list ds)) (hl : Kl env x) (hk : env.scope.kind = .function)
    (hq : ∀ s' r, s.heap.get? r = none → r ∉ M → FC env (r :: M) ((x, .adr r) :: ρ) s' → LstO r ds s' → KM M s s' → Sq w A env rest Q E s')
    (hs : swapsWith e (some (.Name x p)) pos.line env = pure false := by rfl) :
    Sq w A env (.Assign [.Name x p] e pos :: rest) Q E s := by
  refine .mk (wpAny_execs_cons (wpAny_Assign_Name (wp_use (h.run s E (Ext.refl _) F.tk) fun v s' r q => ?_) hs))
  obtain ⟨a, vs, rfl, na, ⟨n, pl⟩, rl⟩ := id r
  have F1 := F.addC (C := a) q na (by rw [pl]; rfl)
  have naM : a ∉ M := F.nM a na
  have hcM : ∀ y c, env.cells.lookup y = some c → c ∈ M := fun y c h => (F.live y c h).2.1
  refine F1.set2 (d := .adr a) (v := .ref a) rfl hk hl fun s'' F' k' kk => ?_
  have ka : ∀ o, s'.heap.get? a = some o → s''.heap.get? a = some o := fun o e => kk a o (fun q => naM (q ▸ F.inM)) (fun y q => naM (hcM y a q)) e
  refine (hq s'' a na naM F' ⟨hi, vs, ⟨n, ka _ pl⟩, RepL.immAny hi rl.rep⟩ ?_).run
  obtain ⟨h1, t1, rfl, e1, l1⟩ := q
  obtain ⟨h2, t2, rfl, e2, n2, l2⟩ := k'
  refine ⟨h2, t2, rfl, fun b o hb e => ?_, fun b hb e => n2 b (List.mem_cons_of_mem _ hb) (F1.all b (List.mem_cons_of_mem _ hb)), Nat.le_trans l1 l2⟩
  exact kk b o (fun q => hb (q ▸ F.inM)) (fun y q => hb (hcM y b q)) (e1 b o e)
/-- x.append(e), the value told by hand -/
theorem st_appendG {x : Str} {r : Addr} {ds : List PV} {e : Expr} {p apos pos spos : Pos} {P : Value → Shared → Prop} {Q : Flow → Shared → Prop} (t : 1 ≤ s.toks) (R : LstO r ds s) (hx : EvP w A env s.heap (.Name x p) (.adr r))
    (hsz : ds.length ≤ 1000) (he : ∀ s₁, Kp s s₁ → wpAny (model PW w) A (eval e env) (fun y s₂ => P y s₂ ∧ Kp s₁ s₂) E s₁)
    (hq : ∀ y s₂ h₅, P y s₂ → Kp s s₂ → LstO r ds s₂ → (∀ vs, s₂.heap.PlainList r (List.toArray vs) → RepL s₂.heap ds vs → h₅.PlainList r (vs ++ [y]).toArray) → Heap.SameBut r s₂.heap h₅ → Q .next { s₂ with heap := h₅ }) (hia : interactive env = false)
    (hfew : ((backTo pos (starEach [e] env)).all (fun x => !x.1) && (backToKw pos (keywordEach [] env)).all (fun x => x.1.isSome)
      && decide (([e] : List Expr).length + ([] : List Keyword).length + (if ([] : List Keyword).isEmpty then 0 else 1) < 30)) = true)
    (htrees : backTo pos (starEach [e] env) = [(false, eval e env)])
    (hline : (apos.endLine == pos.line) = true) (hbase : attributeBase (.Name x p) "append" env (eval (.Name x p) env) = eval (.Name x p) env := by rfl) :
    wpAny (model PW w) A (exec (.Expr (.Call (.Attribute (.Name x p) "append" apos) [e] [] pos) spos) env) Q E s := by
  refine wpAny_Expr (wpAny_Call_append hbase hfew hline htrees (hx.use (Ext.refl _) t fun v s₁ rv k1 => ?_)) hia rfl
  simp only [Rep] at rv
  subst rv
  have R1 := R.kp k1
  obtain ⟨vs, ⟨n, hv⟩, hr⟩ := R1.pl
  refine ⟨r, vs.toArray, rfl, ⟨_, n, hv, rfl, rfl, rfl⟩, wpAny_mono (he s₁ k1) (fun y s₂ z => ?_) fun _ _ e => e⟩
  obtain ⟨hP, k2⟩ := z
  have R2 := R1.kp k2
  have hv2 : s₂.heap.PlainList r vs.toArray := ⟨n, k2.ext _ _ hv⟩
  have hlen : vs.toArray.size ≤ sizeLine := by rw [List.size_toArray, hr.length, sizeLine_eq]; omega
  refine wpAny_list_append_plain (hsz := hlen) hv2 fun h₅ hl₅ hs₅ => ?_
  refine hq y s₂ h₅ hP (k1.trans k2) R2 (fun vs' hv' hr' => ?_) hs₅
  obtain ⟨n', e'⟩ := hv'
  obtain ⟨n2, e2⟩ := hv2
  rw [e2] at e'
  cases e'
  simpa using hl₅
/-- displays of new values -/
noncomputable def ArgsF (w : World) (A : Around) (env : Env) (h₁ : Heap) : List Expr → List PV → Prop
  | [], [] => True
  | e :: es, d :: ds => (∀ rest, starEach (e :: rest) env = (false, eval e env) :: starEach rest env) ∧ EvF w A env h₁ e d ∧ ArgsF w A env h₁ es ds
  | _, _ => False
theorem argsF_nil : ArgsF w A env h₁ [] [] := trivial
theorem argsF_cons {e : Expr} {es : List Expr} {d : PV} {ds : List PV} (h : EvF w A env h₁ e d) (r : ArgsF w A env h₁ es ds)
    (hs : ∀ rest, starEach (e :: rest) env = (false, eval e env) :: starEach rest env := by intro _; rfl) : ArgsF w A env h₁ (e :: es) (d :: ds) := ⟨hs, h, r⟩
theorem ArgsF.run {pos : Pos} : ∀ {es : List Expr} {ds : List PV}, ArgsF w A env h₁ es ds → ∀ (s₀ s : Shared) (E : Value → Shared → Prop), Ext h₁ s.heap → Ext s₀.heap s.heap → 1 ≤ s.toks →
    wpAny (model PW w) A (spliced (backTo pos (starEach es env))) (fun vs s' => RepPL (Nw s₀.heap) s'.heap ds vs ∧ Kp s s') E s
  | [], [], _, s₀, s, E, k, k0, t => by
    exact Calls.spliced_nil ⟨by simp [RepPL], Kp.refl s⟩
  | e :: es, d :: ds, ⟨h0, h1, h2⟩, s₀, s, E, k, k0, t => by
    rw [h0]
    show wpAny _ _ (spliced ((false, eval e env) :: backTo pos (starEach es env))) _ _ _
    refine Calls.spliced_cons (wp_use (h1.run s E k t) fun v s₁ rv q => ?_)
    refine wp_use (ArgsF.run (pos := pos) h2 s₀ s₁ E (k.trans q.ext) (k0.trans q.ext) (Nat.le_trans t q.toks)) fun vs s₂ rvs q2 => ?_
    exact ⟨⟨v, vs, rfl, rv.imp (fun b hb => Nw.of k0 hb) fun b o _ e => q2.ext _ _ e, rvs⟩, q.trans q2⟩
  | [], _ :: _, h, _, _, _, _, _, _ => h.elim
  | _ :: _, [], h, _, _, _, _, _, _ => h.elim
theorem ev_tupleG {es : List Expr} {n : Nat} {pos : Pos} {ds : List PV} (h : ArgsF w A env h₁ es ds) (hsz : ds.length ≤ sizeLine) : EvF w A env h₁ (.Tuple es n pos) (.tup ds) := .mk fun s E k t => by
  refine wpAny_Tuple_spliced (wp_use (h.run s s E k (Ext.refl _) t) fun vs s' r q => ?_)
  refine ⟨by rw [r.length]; exact hsz, ⟨_, vs, rfl, Nw.of q.ext (Heap.get?_none_of_le (Nat.le_refl _)), ⟨_, Heap.get?_push_size _ rfl, rfl, _, rfl⟩, r.imp (fun _ y => y) fun b o _ e => Heap.get?_push_of_some _ e⟩, q.trans (Kp.push _ _)⟩
theorem itm_tuple {M : List Addr} {iter tg : Expr} {ds : List PV} (hh : A.handled = none) (hg : NoGo tg) (hM : ∀ b ∈ M, (s.heap.get? b).isSome = true)
    (h : ∀ (E : Value → Shared → Prop), wpAny (model PW w) A (eval iter env) (fun v s' => RepP (fun b => b ∉ M) s'.heap (.tup ds) v ∧ Kp s s') E s) : ItM w A env M s tg iter ds.length (nth ds) := .mk fun E =>
  wp_use (h E) fun x s₁ r q => by
    obtain ⟨ax, vs, rfl, ha, hl, hr⟩ := r
    have new : s.heap.get? s₁.heap.objs.size = none := Nw.of q.ext (Heap.get?_none_of_le (Nat.le_refl _))
    have hl' : (del M s₁.heap).IsTuple ax vs.toArray := by
      obtain ⟨o, ho, hc⟩ := hl
      exact ⟨o, by rw [del_not ha]; exact ho, hc⟩
    have hr' : RepL (del M s₁.heap) ds vs := (hr.imp (fun _ y => y) fun b o hb e => by rw [del_not hb]; exact e).rep
    refine wpAny_pyIter_tuple hl ⟨⟨del M s₁.heap, s₁.heap.objs.size, [s₁.heap.objs.size], fun i h => h.IsTupleIter s₁.heap.objs.size ax i, rfl, fun b hb => del_mem hb, fun b hb hf => ?_, (del_ext M _).trans (Kp.push s₁ _).ext,
      it_tuple hh hg hl' hr' (Nw.of (del_ext M _) (Heap.get?_none_of_le (Nat.le_refl _))), ⟨_, Heap.get?_push_size _ rfl, rfl, rfl⟩, fun b hb => ?_⟩, q.trans (Kp.push s₁ _)⟩
    · simp at hf; subst hf
      have := hM _ hb
      rw [new] at this; cases this
    · simp at hb; subst hb; exact new
end T55

end
section
open PySem PySem.W PyProof.Rows PySem.Calls
namespace T55
set_option maxRecDepth 100000
set_option linter.unusedVariables false
variable {w : World} {A : Around} {env : Env} {h₁ : Heap} {s : Shared} {M : List Addr} {ρ : List (Str × PV)} {E : Value → Shared → Prop} {Q : Flow → Shared → Prop}
theorem call_defC {a : Addr} {fd : FuncData} {body : List Stmt} {names : List Str} {ds : List PV} {n : Nat} {vs : List Value} {Q : Value → Shared → Prop}
    (F : FnAt w.params a fd) (X : Ext (HZ w.params) s.heap) (O : Ok A (n + 1)) (hbody : fd.body = .stmts body) (hnd : names.Nodup) (hlen : names.length = ds.length)
    (hbind : ∀ vs : List Value, vs.length = names.length → bindArgs fd ⟨vs, []⟩ = pure (names.zip vs)) (hclo : fd.closure = [])
    (hloc : ∀ L, ∀ x ∈ names, Kl (callEnvC fd L a) x)
    (hco : fd.scope.isCoroutine = false) (hgen : fd.scope.isGenerator = false) (hk : fd.scope.kind = .function) (t : 1 ≤ s.toks) (r : RepL s.heap ds vs)
    (h : ∀ (L : Addr) (A' : Around) (s' : Shared) (E' : Value → Shared → Prop), Ok A' n → Kp s s' → (∀ b ∈ L :: (callEnvC fd L a).cells.map (·.2), s.heap.get? b = none) → FC (callEnvC fd L a) (L :: (callEnvC fd L a).cells.map (·.2)) (names.zip ds) s' →
      Sq w A' (callEnvC fd L a) body (fun f s'' => Q (match f with | .ret v => v | _ => .none) s'') E' s') :
    wpAny (model PW w) A (call (.ref a) vs) Q E s := by
  have hlv : vs.length = names.length := by rw [r.length, hlen]
  obtain ⟨⟨o, ho, hd⟩, hcd⟩ := F
  refine wpAny_call (codeAny_call_function (by have := O.depth; omega) (X _ _ ho) hd hco hgen hbody (hcd.keeps fun _ _ e => X _ _ e) ?_)
  rw [hbind vs hlv, hclo]
  refine wpAny_pure (fc_new hk t (hloc _) r fun env he s' F' kp newM => ?_)
  subst he
  refine ⟨(noLim X).keeps fun b o e => kp.ext _ _ e, codeAny_func (wpAny_mono (h s.heap.objs.size _ s' _ (O.deeper _) kp newM (F'.weaken fun x d hx => ?_)).run (fun f s'' z => z) fun _ _ e => e)⟩
  rw [lookup_rev]
  · exact hx
  · have : ∀ (ns : List Str) (us : List PV), ((ns.zip us).map (·.1)).Sublist ns := by
      intro ns
      induction ns with
      | nil => intro us; simp
      | cons a ns ih => intro us; cases us with
        | nil => simp
        | cons u us => simp only [List.zip_cons_cons, List.map_cons]; exact List.Sublist.cons_cons _ (ih us)
    exact hnd.sublist (this names ds)
theorem FC.change {r : Addr} {h' : Heap} (F : FC env M ρ s) (hr : r ∈ M) (hL : r ≠ env.locals) (hc : ∀ x c, env.cells.lookup x = some c → c ≠ r) (sb : Heap.SameBut r s.heap h') (al : (h'.get? r).isSome = true) : FC env M ρ { s with heap := h' } := by
  have rep : ∀ d v, RepP (fun b => b ∉ M) s.heap d v → RepP (fun b => b ∉ M) h' d v := fun d v q =>
    q.imp (fun _ y => y) fun b o hb e => sb.extBut b o (fun e => hb (e ▸ hr)) e
  refine ⟨?_, fun x d hx hl => ?_, fun x c hcc => ?_, F.apart, F.inM, fun b hb => ?_, F.tk⟩
  · obtain ⟨m, hn, h⟩ := F.ns
    exact ⟨m, hn.sameBut sb (Ne.symm hL), fun x d hx hl => by obtain ⟨v, hv, q⟩ := h x d hx hl; exact ⟨v, hv, rep d v q⟩⟩
  · obtain ⟨c, v, hcc, hi, q⟩ := F.cell x d hx hl
    exact ⟨c, v, hcc, hi.sameBut sb (hc x c hcc), rep d v q⟩
  · obtain ⟨⟨u, h1⟩, h2, h3⟩ := F.live x c hcc
    exact ⟨⟨u, h1.sameBut sb (hc x c hcc)⟩, h2, h3⟩
  · show (h'.get? b).isSome = true
    by_cases e : b = r
    · rw [e]; exact al
    · obtain ⟨o, ho⟩ := Option.isSome_iff_exists.mp (F.all b hb)
      rw [sb.extBut b o e ho]; rfl
theorem FC.stabI {h' : Heap} {tk : Nat} (F : FC env M ρ s) (hi : ∀ p ∈ ρ, Imm p.2) (hk : ∀ b o, b ∈ M → s.heap.get? b = some o → h'.get? b = some o) (le : s.toks ≤ tk) : FC env M ρ { s with heap := h', toks := tk } :=
  F.stab (fun b o hb e => by
    rcases hb with hb | ⟨x, d, hx, hn⟩
    · exact hk b o hb e
    · exact absurd (imm3 hi x d hx) hn) le
theorem ltL_mono {h h' : Heap} {T T' : Nat} (le : T ≤ T') : ∀ {l : List Int} {vs : List Value}, RepL h (ltL l T) vs → RepL h' (ltL l T') vs
  | [], vs, r => by simpa only [ltL, List.map_nil, RepL] using r
  | x :: l, vs, r => by
    simp only [ltL, List.map_cons, RepL] at r
    obtain ⟨v, q, rfl, ⟨t, h1, h2, rfl⟩, h3⟩ := r
    simp only [ltL, List.map_cons, RepL]
    exact ⟨_, _, rfl, ⟨t, h1, Nat.lt_of_lt_of_le h2 le, rfl⟩, ltL_mono le h3⟩
theorem imm_lt (l : List Int) (T : Nat) : ImmL (ltL l T) := fun d hd => by
  obtain ⟨a, _, rfl⟩ := List.mem_map.mp hd
  trivial
theorem swaps_false {env : Env} {elt : Expr} {gens : List Comprehension} {scope : Scope} {pos p' : Pos} {x : Str} {line : Nat} (hl : env.kindOf x = some .cell) : swapsWith (.ListComp elt gens scope pos) (some (.Name x p')) line env = pure false := by
  show (pure _ : Sem Bool) = _
  rw [hl]
  congr 1
  cases env.blockKind == ScopeKind.function <;> rfl
noncomputable def wl : List (List Int) := [[1, 2, 3], [1], [2, 3], [2], [2], [3], [3]]
/-- the bits of one part at one place -/
noncomputable def mbits (rows : List (List Int)) (p : Nat) (wd : List Int) : List Int := ((List.range 3).filter fun k => wd.any fun y => y == (rows.getD k []).getD p 0).map fun k => (2 : Int) ^ k
noncomputable def mskP (rows : List (List Int)) (p : Nat) : List Int := wl.map fun wd => (mbits rows p wd).sum
noncomputable def maskL (rows : List (List Int)) (n : Nat) : List Int := (List.range n).flatMap (mskP rows)
theorem maskL_succ (rows : List (List Int)) (n : Nat) : maskL rows (n + 1) = maskL rows n ++ mskP rows n := by
  unfold maskL
  rw [List.range_succ, List.flatMap_append]
  simp
theorem maskL_len (rows : List (List Int)) (n : Nat) : (maskL rows n).length = 7 * n := by
  induction n with
  | zero => rfl
  | succ n ih => rw [maskL_succ, List.length_append, ih]; simp [mskP, wl]; omega
theorem mbits_bound (rows : List (List Int)) (p : Nat) (wd : List Int) : (∀ x ∈ mbits rows p wd, 0 ≤ x ∧ x < 2 ^ 40) ∧ (mbits rows p wd).length ≤ 100 := by
  constructor
  · intro x hx
    obtain ⟨k, hk, rfl⟩ := List.mem_map.mp hx
    have := (List.mem_filter.mp hk).1
    have hk3 : k < 3 := List.mem_range.mp this
    have : k = 0 ∨ k = 1 ∨ k = 2 := by omega
    rcases this with rfl | rfl | rfl <;> decide
  · unfold mbits
    rw [List.length_map]
    exact Nat.le_trans (List.length_filter_le _ _) (by simp)
end T55

end
section
open PySem PySem.W PyProof.Rows PySem.Calls
namespace T55
set_option maxRecDepth 100000
set_option linter.unusedVariables false
variable {w : World} {A : Around} {env : Env} {h₁ : Heap} {s : Shared} {M : List Addr} {ρ : List (Str × PV)} {E : Value → Shared → Prop} {Q : Flow → Shared → Prop}
structure KMk (env : Env) : Prop where
  F : env.scope.kind = .function
  g : env.globals = 3
  b : env.builtins = 0
  rows : env.kindOf "rows" = some .local
  masks : env.kindOf "masks" = some .local
  place : env.kindOf "place" = some .cell
  forms : env.kindOf "forms" = some .cell
  wanted : env.kindOf "wanted" = some .cell
  range : env.kindOf "range" = some .globalImplicit
  sum : env.kindOf "sum" = some .globalImplicit
  cplace : (env.cells.lookup ("place" : Str)).isSome = true
  cforms : (env.cells.lookup ("forms" : Str)).isSome = true
  cwanted : (env.cells.lookup ("wanted" : Str)).isSome = true
theorem kmk (P : Params) (L : Addr) : KMk (callEnvC (fdOf (oG144 P)) L 144) := ⟨by kernel_rfl, by kernel_rfl, by kernel_rfl, by kernel_rfl, by kernel_rfl, by kernel_rfl, by kernel_rfl, by kernel_rfl, by kernel_rfl, by kernel_rfl, by kernel_rfl, by kernel_rfl, by kernel_rfl⟩
noncomputable def rowsPV (rows : List (List Int)) : List PV := rows.map fun r => .list (pInts r)
/-- a list that stands where nothing changes -/
noncomputable def Std (M : List Addr) (hb : Heap) (a : Addr) (ds : List PV) (s : Shared) : Prop := RepP (fun b => b ∉ M ∧ (hb.get? b).isSome = true) s.heap (.list ds) (.ref a)
theorem Std.get {hb : Heap} {a : Addr} {ds : List PV} {s' : Shared} (d : Std M hb a ds s) (k : ∀ b o, b ∉ M → (hb.get? b).isSome = true → s.heap.get? b = some o → s'.heap.get? b = some o) : Std M hb a ds s' :=
  RepP.imp (fun _ y => y) (fun b o y e => k b o y.1 y.2 e) d
theorem Std.km {hb : Heap} {a : Addr} {ds : List PV} {s' : Shared} (d : Std M hb a ds s) (k : KM M s s') : Std M hb a ds s' := d.get fun b o h1 _ e => k.get h1 e
theorem Std.rep {hb : Heap} {a : Addr} {ds : List PV} (d : Std M hb a ds s) : Rep s.heap (.list ds) (.ref a) := RepP.rep d
theorem pow2_bits : ∀ i : Nat, i < 3 → ((Builtin.Int.intBits 2 : Nat) : Int) * (i : Int) ≤ 2 ^ 27 := by decide
/-- the inner loop's body: one mask is put to the list -/
theorem mask_turn {rows : List (List Int)} {p : Nat} {wd l : List Int} {T : Nat} {r ar af : Addr} {sb : Shared} (K : KMk env) (h3 : rows.length = 3) (X : Ext (HZ w.params) s.heap) (O : Ok A 0) (hr : r ∈ M) (hrL : r ≠ env.locals) (hrc : ∀ x c, env.cells.lookup x = some c → c ≠ r)
    (F : FC env M [("wanted", .tup (pInts wd)), ("forms", .adr af), ("place", .int (p : Int)), ("masks", .adr r), ("rows", .adr ar)] s) (D : Std M sb.heap af (pInts ((List.range 3).map fun k => (rows.getD k []).getD p 0)) s) (R : LstO r (ltL l T) s) (hT : T ≤ s.toks) (hl : l.length ≤ 100)
    (hq : ∀ s', FC env M [("forms", .adr af), ("place", .int (p : Int)), ("masks", .adr r), ("rows", .adr ar)] s' → (∃ T', T' ≤ s'.toks ∧ LstO r (ltL (l ++ [(mbits rows p wd).sum]) T') s') → KM M s s' → Q .next s') :
    ∀ st, (match (bodyOf 22)[1]? with | some (Stmt.For _ _ bd _ _) => (match bd[1]? with | some (Stmt.For _ _ bd2 _ _) => bd2[0]? | _ => none) | _ => none) = some st → wpAny (model PW w) A (exec st env) Q E s := by
  intro st hst
  conv at hst => lhs; whnf
  injection hst with hst
  subst hst
  have G : ∀ {h : Heap}, Ext (HZ w.params) h → GE w env h := fun x => ⟨K.g, K.b, K.F, x⟩
  have cf : Cv env s.heap "forms" (.list (pInts ((List.range 3).map fun k => (rows.getD k []).getD p 0))) := (F.cv (x := "forms") (by rfl) K.forms).lift D.rep
  have cw : Cv env s.heap "wanted" (.tup (pInts wd)) := F.cv (x := "wanted") (by rfl) K.wanted
  obtain ⟨mb1, mb2⟩ := mbits_bound rows p wd
  have e : (((List.range 3).filter fun k => wd.any fun y => y == (rows.getD k []).getD p 0).map fun k => PV.int ((2 : Int) ^ k)) = pInts (mbits rows p wd) := by
    unfold mbits pInts; rw [List.map_map]; rfl
  have fl : (pInts ((List.range 3).map fun k => (rows.getD k []).getD p 0)).length = 3 := by simp [pInts]
  refine st_appendG (P := fun y s₂ => ∃ t' : Nat, 1 ≤ t' ∧ t' < s₂.toks ∧ y = .int (mbits rows p wd).sum t') F.tk R (F.ev (by rfl) K.F (.inl K.masks) (by kernel_rfl)) (by simp [ltL]; omega) (fun s₁ k₁ => ?_) (fun y s₂ h₅ hy k2 R2 hpl sb5 => ?_) (by unfold interactive; rw [K.F]; rfl) (by rfl) (by rfl) (by kernel_rfl)
  · refine ev_callG (h₁ := s.heap) (ds := [.list (pInts (mbits rows p wd))]) (nm_builtin (G X) K.sum (b_sum w.params) (by kernel_rfl)) (keeps_val fun a => by simp) (args_cons ?_ args_nil) (by simp) k₁.ext (Nat.le_trans F.tk k₁.toks) (fun s₃ vs k3 r3 => wpAny_mono (call_sumT O.handled mb1 mb2 s₃ _ vs (Nat.le_trans F.tk (k₁.trans k3).toks) r3) (fun v s₄ z => ⟨z.1, k3.trans z.2⟩) fun _ _ e => e)
    rw [← e]
    refine EvF.ev (ev_list1 (T := 1) (n := 3) (D := fun i => .int (i : Int)) (R := fun k => .int ((2 : Int) ^ k)) (keep := fun k => wd.any fun y => y == (rows.getD k []).getD p 0) (ρt := fun i => [("k", .int (i : Int))])
      ?_ (by decide +kernel) rfl (by decide +kernel) (Nat.le_refl 1) (itp_range O.handled noGo_name (by omega) (fun s E k t => ev_range (G X) K.range ev_int (by intro _; rfl) s E k t)) (by omega)
      (fun i hi env' C ce => asp_name (ce.own _ _ (by kernel_rfl) (by decide)) ce.k) (fun i hi env' C s ce x t F' => test_one ?_ t) (fun i hi _ env' C s ce x t F' => ?_))
    · intro y hy hfree
      simp only [List.mem_cons, List.not_mem_nil, or_false] at hy
      rcases hy with rfl | rfl | rfl | rfl <;> first | exact absurd hfree (by decide) | exact K.cforms | exact K.cwanted
    · refine ts_cmp (ev_item_list (d := .int ((rows.getD i []).getD p 0)) (cf.ev ce x (by kernel_rfl) (by kernel_rfl) (by kernel_rfl)) (F'.ev (by rfl) ce.k (ce.own _ _ (by kernel_rfl) (by decide)) (by kernel_rfl)) (by omega) (by omega) ?_) (cw.ev ce x (by kernel_rfl) (by kernel_rfl) (by kernel_rfl)) cm_in_tup
      rw [show ((i : Int)).toNat = i by omega]
      simp [pInts, hi]
    · have e2 : (2 : Int) ^ i = 2 ^ ((i : Int)).toNat := by rw [show ((i : Int)).toNat = i by omega]
      rw [e2]
      exact EvP.imm (ev_bin ev_int (F'.ev (by rfl) ce.k (ce.own _ _ (by kernel_rfl) (by decide)) (by kernel_rfl)) (op_pow_int (by omega) (pow2_bits i hi))) trivial
  · obtain ⟨t', t1, t2, rfl⟩ := hy
    obtain ⟨vs, hv, hrl⟩ := R2.pl
    have hv5 := hpl vs hv hrl
    have al : (h₅.get? r).isSome = true := by obtain ⟨n, hn⟩ := hv5; rw [hn]; rfl
    have F2 := (F.kp k2).change (h' := h₅) hr hrL hrc sb5 al
    refine hq _ (F2.sub ⟨by rfl, by rfl, by rfl, by rfl, trivial⟩) ⟨s₂.toks, Nat.le_refl _, imm_lt _ _, _, hv5, ?_⟩ ((KM.of_kp k2).trans ⟨h₅, s₂.toks, rfl, fun b o hb e => sb5.extBut b o (fun q => hb (q ▸ hr)) e, fun b hb e => ?_, Nat.le_refl _⟩)
    · have h1 := ltL_mono (h' := h₅) (Nat.le_trans hT k2.toks) hrl
      have e3 : ltL (l ++ [(mbits rows p wd).sum]) s₂.toks = ltL l s₂.toks ++ [.lt (mbits rows p wd).sum s₂.toks] := by simp [ltL]
      show RepL h₅ _ _
      rw [e3]
      exact RepL.snoc h1 ⟨t', t1, t2, rfl⟩
    · by_cases q : b = r
      · rw [q]; exact al
      · obtain ⟨o, ho⟩ := Option.isSome_iff_exists.mp e
        rw [sb5.extBut b o q ho]; rfl
end T55

end
section
open PySem PySem.W PyProof.Rows PySem.Calls
namespace T55
set_option maxRecDepth 100000
set_option linter.unusedVariables false
variable {w : World} {A : Around} {env : Env} {h₁ : Heap} {s : Shared} {M : List Addr} {ρ : List (Str × PV)} {E : Value → Shared → Prop} {Q : Flow → Shared → Prop}
theorem filt_true {α : Type} (l : List α) : l.filter (fun _ => true) = l := List.filter_eq_self.mpr (fun _ _ => rfl)
theorem const_tup {es : List Expr} {l : List Int} {n : Nat} {pos : Pos} (h : constInts es = some l) (hz : l.length ≤ 1000) : EvF w A env h₁ (.Tuple es n pos) (.tup (pInts l)) :=
  ev_tupleF (args_consts h) (imm_ints l) (by rw [pInts_len, sizeLine_eq]; omega)
theorem KM.is {M : List Addr} {s s' : Shared} (k : KM M s s') {b : Addr} (e : (s.heap.get? b).isSome = true) : (s'.heap.get? b).isSome = true := k.get' e
/-- kept but for the names' own objects -/
noncomputable def KO (env : Env) (s s' : Shared) : Prop := ∀ b o, b ≠ env.locals → (∀ y, env.cells.lookup y ≠ some b) → s.heap.get? b = some o → s'.heap.get? b = some o
theorem as_nameO {x : Str} {p : Pos} {v : Value} {d : PV} {Q : Unit → Shared → Prop} (F : FC env M ρ s) (r : RepP (fun b => b ∉ M) s.heap d v) (hx : Kl env x) (hk : env.scope.kind = .function)
    (hq : ∀ s', FC env M ((x, d) :: ρ) s' → KM M s s' → KO env s s' → Q () s') : wpAny (model PW w) A (assign (.Name x p) env v) Q E s :=
  assign_Name (F.set2 r hk hx hq)
theorem sc_assignO {x : Str} {p pos : Pos} {e : Expr} {rest : List Stmt} {d : PV} {T : Nat} (F : FC env M ρ s) (h : EvT w A env s.heap T e d) (hT : T ≤ s.toks) (hl : Kl env x) (hk : env.scope.kind = .function)
    (hq : ∀ s', FC env M ((x, d) :: ρ) s' → KM M s s' → KO env s s' → Sq w A env rest Q E s')
    (hs : swapsWith e (some (.Name x p)) pos.line env = pure false := by rfl) :
    Sq w A env (.Assign [.Name x p] e pos :: rest) Q E s := by
  refine .mk (wpAny_execs_cons (wpAny_Assign_Name (wp_use (h.run s E (Ext.refl _) hT) fun v s' r q => ?_) hs))
  exact (F.kp q).set2 (r.imp F.nM fun _ _ _ e => e) hk hl fun s'' F' k' ko => (hq s'' F' ((KM.of_kp q).trans k') fun b o h1 h2 e => ko b o h1 h2 (q.ext _ _ e)).run
theorem LstO.ko {r : Addr} {ds : List PV} {s' : Shared} (R : LstO r ds s) (h1 : r ≠ env.locals) (h2 : ∀ x c, env.cells.lookup x = some c → c ≠ r) (k : KO env s s') : LstO r ds s' := R.get fun o e => k r o h1 (fun y q => h2 y r q rfl) e
noncomputable def wPV : List PV := [.tup (pInts [1, 2, 3]), .tup (pInts [1]), .tup (pInts [2, 3]), .tup (pInts [2]), .tup (pInts [2]), .tup (pInts [3]), .tup (pInts [3])]
theorem wPV_nth (i : Nat) (hi : i < 7) : nth wPV i = .tup (pInts (wl.getD i [])) := by
  have : i = 0 ∨ i = 1 ∨ i = 2 ∨ i = 3 ∨ i = 4 ∨ i = 5 ∨ i = 6 := by omega
  rcases this with rfl | rfl | rfl | rfl | rfl | rfl | rfl <;> rfl
theorem ev_wanted {es1 es2 es3 es4 es5 es6 es7 : List Expr} {n1 n2 n3 n4 n5 n6 n7 n : Nat} {p1 p2 p3 p4 p5 p6 p7 pos : Pos}
    (h1 : constInts es1 = some [1, 2, 3]) (h2 : constInts es2 = some [1]) (h3 : constInts es3 = some [2, 3]) (h4 : constInts es4 = some [2]) (h5 : constInts es5 = some [2]) (h6 : constInts es6 = some [3]) (h7 : constInts es7 = some [3]) :
    EvF w A env h₁ (.Tuple [.Tuple es1 n1 p1, .Tuple es2 n2 p2, .Tuple es3 n3 p3, .Tuple es4 n4 p4, .Tuple es5 n5 p5, .Tuple es6 n6 p6, .Tuple es7 n7 p7] n pos) (.tup wPV) :=
  ev_tupleG (argsF_cons (const_tup h1 (by decide)) (argsF_cons (const_tup h2 (by decide)) (argsF_cons (const_tup h3 (by decide)) (argsF_cons (const_tup h4 (by decide)) (argsF_cons (const_tup h5 (by decide)) (argsF_cons (const_tup h6 (by decide)) (argsF_cons (const_tup h7 (by decide)) argsF_nil))))))) (by rw [sizeLine_eq]; show 7 ≤ 16777216; decide)
theorem wanted_wp {es1 es2 es3 es4 es5 es6 es7 : List Expr} {n1 n2 n3 n4 n5 n6 n7 n : Nat} {p1 p2 p3 p4 p5 p6 p7 pos : Pos} (F : FC env M ρ s)
    (h1 : constInts es1 = some [1, 2, 3]) (h2 : constInts es2 = some [1]) (h3 : constInts es3 = some [2, 3]) (h4 : constInts es4 = some [2]) (h5 : constInts es5 = some [2]) (h6 : constInts es6 = some [3]) (h7 : constInts es7 = some [3]) :
    wpAny (model PW w) A (eval (.Tuple [.Tuple es1 n1 p1, .Tuple es2 n2 p2, .Tuple es3 n3 p3, .Tuple es4 n4 p4, .Tuple es5 n5 p5, .Tuple es6 n6 p6, .Tuple es7 n7 p7] n pos) env) (fun v s' => RepP (fun b => b ∉ M) s'.heap (.tup wPV) v ∧ Kp s s') E s := by
  have h := ev_wanted (w := w) (A := A) (env := env) (h₁ := s.heap) (n1 := n1) (n2 := n2) (n3 := n3) (n4 := n4) (n5 := n5) (n6 := n6) (n7 := n7) (n := n) (p1 := p1) (p2 := p2) (p3 := p3) (p4 := p4) (p5 := p5) (p6 := p6) (p7 := p7) (pos := pos) h1 h2 h3 h4 h5 h6 h7
  generalize wPV = ds at h ⊢
  exact wp_use (h.run s E (Ext.refl _) F.tk) fun v s' r q => ⟨r.imp F.nM fun _ _ _ e => e, q⟩
set_option maxHeartbeats 1000000 in
theorem masks_body {rows : List (List Int)} (K : KMk env) (h3 : rows.length = 3) (h5 : ∀ r ∈ rows, r.length = 5) (X : Ext (HZ w.params) s.heap) (hzM : ∀ b ∈ M, (HZ w.params).get? b = none) (O : Ok A 0)
    (F : FC env M [("rows", .list (rowsPV rows))] s) :
    Sq w A env (bodyOf 22) (fun f s' => ∃ v, f = .ret v ∧ (∃ T, T ≤ s'.toks ∧ Rep s'.heap (.list (ltL (maskL rows 5) T)) v) ∧ KM M s s') E s := by
  have mt := @mask_turn
  conv in (bodyOf 22) => whnf
  obtain ⟨ar, Fa, da⟩ := F.adr (x := "rows") (by rfl) (.inl K.rows)
  have G : ∀ {h : Heap}, Ext (HZ w.params) h → GE w env h := fun x => ⟨K.g, K.b, K.F, x⟩
  refine sc_new (ds := []) (Fa.sub (ρ' := [("rows", .adr ar)]) ⟨by rfl, trivial⟩) (by intro d hd; cases hd) (ev_listF args_nil (by intro d hd; cases hd) (by decide)) (.inl K.masks) K.F (fun s1 r hr0 hrM F1 R1 k1 => ?_)
  have hr : r ∈ r :: M := List.mem_cons_self
  have hrL : r ≠ env.locals := fun e => hrM (e ▸ F.inM)
  have hrc : ∀ x c, env.cells.lookup x = some c → c ≠ r := fun x c h e => hrM (e ▸ (F.live x c h).2.1)
  have hzr : (HZ w.params).get? r = none := Nw.of X hr0
  have hzM1 : ∀ b ∈ r :: M, (HZ w.params).get? b = none := fun b hb => by
    rcases List.mem_cons.mp hb with rfl | hb
    · exact hzr
    · exact hzM b hb
  have X1 : Ext (HZ w.params) s1.heap := k1.ext hzM X
  have D1 : Std (r :: M) s1.heap ar (rowsPV rows) s1 := RepP.imp (fun b hb => ⟨fun hm => by
    rcases List.mem_cons.mp hm with rfl | hm
    · rw [hr0] at hb; cases hb.2
    · exact hb.1 hm, k1.is hb.2⟩) (fun b o hb e => k1.get hb.1 e) da
  have hrow : ∀ k, k < 3 → nth (rowsPV rows) k = .list (pInts (rows.getD k [])) := fun k hk => by
    simp [nth, rowsPV, List.getD_eq_getElem?_getD, h3, hk]
  have hrl : ∀ k, k < 3 → (rows.getD k []).length = 5 := fun k hk => h5 _ (by
    have : rows.getD k [] = rows[k] := by simp [List.getD_eq_getElem?_getD, h3, hk]
    rw [this]; exact List.getElem_mem _)
  refine sq_for (r :: M) F1.tk F1.all (itm_range (n := 5) O.handled noGo_name (by omega) F1.tk F1.all fun E' => ev_range (G X1) K.range ev_int (by intro _; rfl) s1 E' (Ext.refl _) F1.tk)
    (fun p s' => FC env (r :: M) [("masks", .adr r), ("rows", .adr ar)] s' ∧ Std (r :: M) s1.heap ar (rowsPV rows) s' ∧ ∃ T, T ≤ s'.toks ∧ LstO r (ltL (maskL rows p) T) s') ?_ ?_ ?_ ?_
  · rintro p s' h' tk ⟨Fi, Di, T, hT, Ri⟩ hk le
    refine ⟨Fi.stabI (by simp [Imm]) (fun b o hb e => hk b (.inl hb) o e) le, Di.get fun b o _ h2 e => hk b (.inr h2) o e, T, Nat.le_trans hT le, Ri.get fun o e => hk _ (.inl hr) o e⟩
  · intro s' k
    exact ⟨F1.kp k, D1.get fun b o _ _ e => k.ext _ _ e, 0, Nat.zero_le _, R1.kp k⟩
  · rintro p s2 E2 v hp ⟨F2, D2, T2, hT2, R2⟩ km rv
    have X2 : Ext (HZ w.params) s2.heap := km.ext hzM1 X1
    refine as_nameO F2 rv (.inr ⟨K.place, K.cplace⟩) K.F fun s3 F3 k3 o3 => ?_
    have X3 := k3.ext hzM1 X2
    have D3 := D2.km k3
    have cp : Cv env s3.heap "place" (.int (p : Int)) := F3.cv (x := "place") (by rfl) K.place
    have rl : (rowsPV rows).length = 3 := by simp [rowsPV, h3]
    have e : (((List.range 3).filter fun _ => true).map fun k => PV.int ((rows.getD k []).getD p 0)) = pInts ((List.range 3).map fun k => (rows.getD k []).getD p 0) := by
      unfold pInts; rw [List.map_map, filt_true]; rfl
    refine sc_assignO (d := .list (pInts ((List.range 3).map fun k => (rows.getD k []).getD p 0))) (T := 1) F3 (by
      rw [← e]
      refine ev_list1 (T := 1) (n := 3) (D := nth (rowsPV rows)) (R := fun k => .int ((rows.getD k []).getD p 0)) (keep := fun _ => true) (ρt := fun i => [("row", nth (rowsPV rows) i)])
        ?_ (by decide +kernel) rfl (by decide +kernel) (Nat.le_refl 1) (rl ▸ itp_list O.handled noGo_name ((F3.ev (by rfl) K.F (.inl K.rows) (by kernel_rfl)).lift D3.rep)) (by omega)
        (fun i hi env' C ce => asp_name (ce.own _ _ (by kernel_rfl) (by decide)) ce.k) (fun i hi env' C s ce x t F' => test_nil) (fun i hi _ env' C s ce x t F' => ?_)
      · intro y hy hfree
        simp only [List.mem_cons, List.not_mem_nil, or_false] at hy
        rcases hy with rfl | rfl | rfl <;> first | exact absurd hfree (by decide) | exact K.cplace
      · rw [hrow i hi] at F'
        have := hrl i hi
        exact EvP.imm (ev_item_list (F'.ev (by rfl) ce.k (ce.own _ _ (by kernel_rfl) (by decide)) (by kernel_rfl)) (cp.ev ce x (by kernel_rfl) (by kernel_rfl) (by kernel_rfl)) (by omega) (by omega) (by rw [show ((p : Int)).toNat = p by omega]; exact pInts_get _ _ (by omega))) trivial) F3.tk (.inr ⟨K.forms, K.cforms⟩) K.F (fun s4 F4 k4 o4 => ?_) (swaps_false K.forms)
    obtain ⟨af, Ff, df⟩ := F4.adr (x := "forms") (by rfl) (.inr ⟨K.forms, K.cforms⟩)
    have X4 := k4.ext hzM1 X3
    have F5 : FC env (r :: M) [("forms", .adr af), ("place", .int (p : Int)), ("masks", .adr r), ("rows", .adr ar)] s4 := Ff.sub ⟨by rfl, by rfl, by rfl, by rfl, trivial⟩
    have D4 := D3.km k4
    have Df : Std (r :: M) s4.heap af (pInts ((List.range 3).map fun k => (rows.getD k []).getD p 0)) s4 := df
    have R4 : LstO r (ltL (maskL rows p) T2) s4 := (R2.ko hrL hrc o3).ko hrL hrc o4
    have hT4 : T2 ≤ s4.toks := Nat.le_trans hT2 (Nat.le_trans k3.toks k4.toks)
    have wlen : wPV.length = 7 := rfl
    refine sq_for (r :: M) F5.tk F5.all (itm_tuple (ds := wPV) O.handled noGo_name F5.all fun E' => ?_)
      (fun i s' => FC env (r :: M) [("forms", .adr af), ("place", .int (p : Int)), ("masks", .adr r), ("rows", .adr ar)] s' ∧ Std (r :: M) s1.heap ar (rowsPV rows) s' ∧ Std (r :: M) s4.heap af (pInts ((List.range 3).map fun k => (rows.getD k []).getD p 0)) s' ∧ ∃ T, T ≤ s'.toks ∧ LstO r (ltL (maskL rows p ++ (mskP rows p).take i) T) s') ?_ ?_ ?_ ?_
    · refine @wanted_wp w A env s4 (r :: M) _ E' _ _ _ _ _ _ _ _ _ _ _ _ _ _ _ _ _ _ _ _ _ _ _ F5 ?_ ?_ ?_ ?_ ?_ ?_ ?_ <;> rfl
    · rintro i s' h' tk ⟨Fi, Di, Dfi, T, hT, Ri⟩ hk le
      have al : ∀ b, (s1.heap.get? b).isSome = true → (s4.heap.get? b).isSome = true := fun b hb => k4.is (k3.is (km.is hb))
      exact ⟨Fi.stabI (by simp [Imm]) (fun b o hb e => hk b (.inl hb) o e) le, Di.get fun b o _ h2 e => hk b (.inr (al b h2)) o e, Dfi.get fun b o _ h2 e => hk b (.inr h2) o e, T, Nat.le_trans hT le, Ri.get fun o e => hk _ (.inl hr) o e⟩
    · intro s' k
      exact ⟨F5.kp k, D4.get fun b o _ _ e => k.ext _ _ e, Df.get fun b o _ _ e => k.ext _ _ e, T2, Nat.le_trans hT4 k.toks, by rw [List.take_zero, List.append_nil]; exact R4.kp k⟩
    · rintro i s5 E5 v hi ⟨Fi, Di, Dfi, T, hT, Ri⟩ kmi rvi
      rw [wPV_nth i hi] at rvi
      refine as_nameO Fi rvi (.inr ⟨K.wanted, K.cwanted⟩) K.F fun s6 F6 k6 o6 => ?_
      have X6 := (kmi.trans k6).ext hzM1 X4
      have hml : (mskP rows p).length = 7 := by simp [mskP, wl]
      have R6 : LstO r (ltL (maskL rows p ++ (mskP rows p).take i) T) s6 := Ri.ko hrL hrc o6
      refine .mk (wpAny_execs_cons (mt (p := p) (wd := wl.getD i []) (l := maskL rows p ++ (mskP rows p).take i) (T := T) (sb := s4) K h3 X6 O hr hrL hrc (F6.sub ⟨by rfl, by rfl, by rfl, by rfl, by rfl, trivial⟩) (Dfi.km k6) R6 (Nat.le_trans hT k6.toks) (by rw [List.length_append, maskL_len, List.length_take]; omega) (fun s7 F7 R7 k7 => ?_) _ (by rfl)))
      refine wpAny_execs_nil (.inl ⟨rfl, ⟨F7, (Di.km k6).km k7, (Dfi.km k6).km k7, ?_⟩, k6.trans k7⟩)
      obtain ⟨T', hT', R7⟩ := R7
      refine ⟨T', hT', ?_⟩
      rw [List.take_succ_eq_append_getElem (by omega), ← List.append_assoc]
      have : (mskP rows p)[i]'(by omega) = (mbits rows p (wl.getD i [])).sum := by
        simp [mskP, List.getD_eq_getElem?_getD, show i < wl.length by show i < 7; omega]
      rw [this]; exact R7
    · rintro s5 ⟨F5', D5, Df5, T5, hT5, R5⟩ km5
      refine sq_nil (.inl ⟨rfl, ⟨F5'.sub ⟨by rfl, by rfl, trivial⟩, D5, T5, hT5, ?_⟩, k3.trans (k4.trans km5)⟩)
      rw [maskL_succ]
      have : (mskP rows p).take wPV.length = mskP rows p := List.take_of_length_le (by simp [mskP, wl, wPV])
      rw [this] at R5; exact R5
  · rintro s2 ⟨F2, D2, T2, hT2, R2⟩ km
    refine sq_ret (R2.ev (F2.ev (by rfl) K.F (.inl K.masks) (by kernel_rfl))) F2.tk fun v s3 rv k3 => ⟨v, rfl, ⟨T2, Nat.le_trans hT2 k3.toks, rv⟩, (k1.drop hr0 km).trans (KM.of_kp k3)⟩
end T55

end
section
open PySem PySem.W PyProof.Rows PySem.Calls
namespace T55
set_option maxRecDepth 100000
set_option linter.unusedVariables false
variable {w : World} {A : Around} {env : Env} {h₁ : Heap} {s : Shared} {M : List Addr} {ρ : List (Str × PV)}
theorem cl_masks {rows : List (List Int)} {vs : List Value} {E : Value → Shared → Prop} (h3 : rows.length = 3) (h5 : ∀ r ∈ rows, r.length = 5) (X : Ext (HZ w.params) s.heap) (O : Ok A 1) (t : 1 ≤ s.toks)
    (r : RepL s.heap [.list (rowsPV rows)] vs) :
    wpAny (model PW w) A (call (.ref 144) vs) (fun v s' => (∃ T, T ≤ s'.toks ∧ Rep s'.heap (.list (ltL (maskL rows 5) T)) v) ∧ Kp s s') E s := by
  refine call_defC (fn_masks w.params) X O (body := bodyOf 22) (names := ["rows"]) (ds := [.list (rowsPV rows)]) (by kernel_rfl) (by decide) rfl (fun vs h => by obtain ⟨u, rfl⟩ := vlen1 h; kernel_rfl) (by kernel_rfl)
    (fun L x hx => ?_) (by kernel_rfl) (by kernel_rfl) (by kernel_rfl) t r fun L A' s' E' O' kp newM F => ?_
  · simp only [List.mem_cons, List.not_mem_nil, or_false] at hx
    subst hx
    exact .inl (by kernel_rfl)
  · have X' := X.trans kp.ext
    refine .mk (wpAny_mono (masks_body (w := w) (A := A') (E := E') (kmk w.params L) h3 h5 X' (fun b hb => Nw.of X (newM b hb)) O' F).run (fun f s'' z => ?_) fun _ _ e => e)
    obtain ⟨v, rfl, hT, k⟩ := z
    refine ⟨hT, ?_⟩
    obtain ⟨h1, t1, rfl, e1, l1⟩ := kp
    obtain ⟨h2, t2, rfl, e2, _, l2⟩ := k
    exact ⟨h2, t2, rfl, fun b o e => e2 b o (fun hm => by rw [newM b hm] at e; cases e) (e1 b o e), Nat.le_trans l1 l2⟩
/-- a comprehension's block with cells of its own, none taken over -/
theorem fc_newA {scope : Scope} {globals : Addr} {qual : Str} {func : Option Addr} {code : Value} {around : Env} {builtins : Addr} {Q : Env → Shared → Prop} {E : Value → Shared → Prop} (hk : scope.kind = .function) (t : 1 ≤ s.toks)
    (hQ : ∀ env, env = newEnv scope s.heap.objs.size globals (cellsFrom (s.heap.objs.size + 1) scope.names []) qual func code (some around) builtins →
      ∀ s', FC env (env.locals :: env.cells.map (·.2)) [] s' → Kp s s' → (∀ b ∈ env.locals :: env.cells.map (·.2), s.heap.get? b = none) → Q env s') :
    wpAny (model PW w) A (newFunctionEnv scope globals [] [] qual func code (some around) builtins) Q E s := by
  simp only [newFunctionEnv, Option.isSome_some, if_true]
  refine wpAny_bind (wpAny_alloc ?_)
  refine wpAny_bind (wpAny_layCells _ (fun name kind cells => by cases kind == NameKind.cell <;> simp) _ _ _ _ ?_)
  have ok := cellsFrom_ok scope.names (s.heap.push { cls := .type "dict", data := .dict #[] }) (s.heap.objs.size + 1) [] ⟨fun _ _ hm => (nomatch hm), List.Pairwise.nil⟩ (by rw [Heap.size_push]; exact Nat.le_refl _)
  rw [Heap.size_push] at ok
  rw [show ({ s with heap := s.heap.push { cls := .type "dict", data := .dict #[] } } : Shared).heap.objs.size = s.heap.objs.size + 1 from Heap.size_push ..]
  obtain ⟨env, he⟩ : ∃ env, newEnv scope s.heap.objs.size globals (cellsFrom (s.heap.objs.size + 1) scope.names []) qual func code (some around) builtins = env := ⟨_, rfl⟩
  rw [he] at hQ
  have eL : env.locals = s.heap.objs.size := by rw [← he]; rfl
  have eC : env.cells = cellsFrom (s.heap.objs.size + 1) scope.names [] := by rw [← he]; rfl
  have x0 : Ext s.heap (pushCells (s.heap.push { cls := .type "dict", data := .dict #[] }) scope.names) := fun b o e => pushCells_keeps _ _ b o (Heap.get?_push_of_some _ e)
  have newM : ∀ b ∈ env.locals :: env.cells.map (·.2), s.heap.get? b = none := fun b hb => by
    rcases List.mem_cons.mp hb with rfl | hb
    · rw [eL]; exact Heap.get?_none_of_le (Nat.le_refl _)
    · obtain ⟨⟨n, c⟩, hm, rfl⟩ := List.mem_map.mp hb
      rw [eC] at hm
      exact Heap.get?_none_of_le (Nat.le_of_succ_le (ok.empty n c hm).2)
  have F0 : FC env (env.locals :: env.cells.map (·.2)) [] { s with heap := pushCells (s.heap.push { cls := .type "dict", data := .dict #[] }) scope.names } := by
    refine ⟨⟨_, eL ▸ (Heap.Ns.new s.heap (.type "dict")).keeps (pushCells_keeps _ _), fun x d hx => (by cases hx)⟩, fun x d hx => (by cases hx), fun x c hc => ?_, eC ▸ ok.apart, List.mem_cons_self, fun b hb => ?_, t⟩
    · have hm := mem_of_lookup hc
      refine ⟨⟨none, ?_⟩, List.mem_cons_of_mem _ (List.mem_map_of_mem (f := (·.2)) hm), ?_⟩
      · rw [eC] at hm; exact (ok.empty x c hm).1
      · rw [eC] at hm; rw [eL]; exact fun e => absurd (ok.empty x c hm).2 (by rw [e]; exact Nat.not_succ_le_self _)
    · rcases List.mem_cons.mp hb with rfl | hb
      · obtain ⟨o, es, ep, ho, _⟩ := (eL ▸ (Heap.Ns.new s.heap (.type "dict")).keeps (pushCells_keeps scope.names _) : Heap.Ns (pushCells (s.heap.push { cls := .type "dict", data := .dict #[] }) scope.names) env.locals _)
        show ((pushCells _ _).get? _).isSome = true
        rw [ho]; rfl
      · obtain ⟨⟨n, c⟩, hm, rfl⟩ := List.mem_map.mp hb
        rw [eC] at hm
        obtain ⟨o, ho, _⟩ := (ok.empty n c hm).1
        show ((pushCells _ _).get? _).isSome = true
        rw [ho]; rfl
  subst he
  refine wpAny_bind ?_
  rw [List.forIn_nil]
  exact wpAny_pure (wpAny_pure (hQ _ rfl _ F0 ⟨_, _, rfl, x0, Nat.le_refl _⟩ newM))
/-- a block with cells of its own -/
noncomputable abbrev J2 (env : Env) (scope : Scope) : Env → List Addr → Shared → Prop := fun e Mc s => FC e Mc [] s ∧ CE env e scope e.locals ∧ (∀ x, scope.names.lookup x = some .cell → Kl e x)
theorem blk2 {scope : Scope} (hkind : scope.kind = .function) (hfree : ∀ y ∈ scope.names, y.2 ≠ .free) (hcells : ∀ n x, scope.names.lookup x = some .cell → ((cellsFrom n scope.names []).lookup x).isSome = true) :
    BlkJ scope env [] w A (J2 env scope) where
  new := fun s Q E t h => by
    refine fc_newA hkind t fun cenv he s' F kp newM => ?_
    have hcl : ∀ y ∈ scope.names, y.2 = .free → ([] : List (Str × Addr)).lookup y.1 = env.cells.lookup y.1 := fun y hy e => absurd e (hfree y hy)
    have ce0 := ce_comp (env := env) (scope := scope) (cl := []) (C := cenv.locals) hkind hcl
    have F' : FC { cenv with scope := relabel scope env } (cenv.locals :: cenv.cells.map (·.2)) [] s' := ⟨by obtain ⟨m, hm, _⟩ := F.ns; exact ⟨m, hm, fun x d hx => (by cases hx)⟩, fun x d hx => (by cases hx), F.live, F.apart, F.inM, F.all, F.tk⟩
    refine h cenv _ s' newM ⟨F', ⟨?_, ?_, ?_, rfl, ?_, ?_⟩, fun x hx => ?_⟩ kp
    · exact ce0.k
    · rw [he]; rfl
    · rw [he]; rfl
    · exact ce0.own
    · intro x hx
      exact absurd rfl (hfree _ (mem_of_lookup hx))
    · refine .inr ⟨ce0.own x .cell hx (by decide), ?_⟩
      show ((cenv.cells).lookup x).isSome = true
      rw [he]
      exact hcells _ x hx
  stab := fun e Mc s h' tk ⟨h1, h2, h3⟩ hk le => ⟨h1.stab (fun b o hb q => by
    rcases hb with hb | ⟨x, d, hx, _⟩
    · exact hk b o hb q
    · cases hx) le, h2, h3⟩
  ns := fun e Mc s ⟨h1, h2, h3⟩ => ⟨h1.inM, by obtain ⟨m, hm, _⟩ := h1.ns; exact ⟨m, hm⟩, h1.all⟩
end T55

end
section
open PySem PySem.W PyProof.Rows PySem.Calls
namespace T55
set_option maxRecDepth 100000
set_option linter.unusedVariables false
variable {w : World} {A : Around} {env : Env} {h₁ : Heap} {s : Shared} {M : List Addr} {ρ : List (Str × PV)}
/-- x = a comprehension, x a local name, any block -/
theorem sc_compG {E : Value → Shared → Prop} {Q : Flow → Shared → Prop} {x : Str} {p' spos : Pos} {rest : List Stmt} {tg iter elt : Expr} {ifs : List Expr} {scope : Scope} {cl : List (Str × Addr)} {pos : Pos} {n : Nat} {D R : Nat → PV} {keep : Nat → Bool} {J : Env → List Addr → Shared → Prop} (F : FC env M ρ s)
    (hl : env.kindOf x = some .local) (hk : env.scope.kind = .function)
    (B : BlkJ scope env cl w A J) (hcl : closureFor scope env = pure cl) (hkind : scope.kind = .function)
    (hnames : ∀ y ∈ scope.names, y.2 = .local → scope.names.lookup y.1 = some .local)
    {T : Nat} (hT : 1 ≤ T) (hit : ItP w A env s.heap T tg iter n D) (hsz : n ≤ 1000) (t : T ≤ s.toks)
    (turn : ∀ i, i < n → ∀ (e : Env) (Mc : List Addr) (s₁ : Shared) (E : Value → Shared → Prop) (v : Value), (∀ b ∈ Mc, s.heap.get? b = none) → J e Mc s₁ → Ext s.heap s₁.heap → T ≤ s₁.toks → RepP (fun b => b ∉ Mc) s₁.heap (D i) v →
      wpAny (model PW w) A (assign tg e v) (fun _ s₂ => wpAny (model PW w) A (testsOf ifs e) (fun ok s₃ => ok = keep i ∧ (keep i = false → KM Mc s₁ s₃ ∧ J e Mc s₃) ∧
        (keep i = true → wpAny (model PW w) A (eval elt e) (fun y s₄ => RepP (Nw s₁.heap) s₄.heap (R i) y ∧ KM Mc s₁ s₄ ∧ J e Mc s₄) E s₃)) E s₂) E s₁)
    (hq : ∀ s', FC env M ((x, .list (((List.range n).filter keep).map R)) :: ρ) s' → KM M s s' → Sq w A env rest Q E s')
    (hsw : swapsWith (.ListComp elt [⟨tg, iter, ifs, 0⟩] scope pos) (some (.Name x p')) spos.line env = pure true)
    (hs : ∀ x, foldedSetIterable iter env x = pure x := by intro _; rfl) :
    Sq w A env (.Assign [.Name x p'] (.ListComp elt [⟨tg, iter, ifs, 0⟩] scope pos) spos :: rest) Q E s := by
  refine .mk (wpAny_execs_cons ?_)
  rw [exec_Assign_Name_used _ _ _ _ hsw]
  refine wpAny_bind (wpAny_standAt ?_)
  show wpAny _ _ ((comprehension (.ListComp elt [⟨tg, iter, ifs, 0⟩] scope pos) scope env (firstIterPos [⟨tg, iter, ifs, 0⟩] pos) (newList []) false (eval iter env) (some (assign (.Name x p') env)) >>= fun _ => pure ()) >>= fun _ => pure Flow.next) _ _ _
  refine wpAny_bind (wpAny_bind (comp_core (Q := fun _ s' => wpAny (model PW w) A (pure ()) (fun (_ : Unit) s'' => wpAny (model PW w) A (pure Flow.next) (fun f s''' => match f with | .next => wpAny (model PW w) A (execs rest env) Q E s''' | f => Q f s''') E s'') E s') B hcl hkind hnames hT hit hsz (Ext.refl _) t turn (fun D C s' hDC hC hD hns r kp => ?_) hs))
  have hC' : (s'.heap.get? C).isSome = true := by
    obtain ⟨m, o, es, ep, ho, _⟩ := hns
    rw [ho]; rfl
  have F1 := F.addC kp hC hC'
  have hCM : ∀ b ∈ M, b ≠ C := fun b hb e => by have := F.all b hb; rw [e, hC] at this; cases this
  have hCL : env.locals ≠ C := hCM _ F.inM
  obtain ⟨mC, hnC⟩ := hns
  have rr : RepP (fun b => b ∉ C :: M) s'.heap (.list (((List.range n).filter keep).map R)) (.ref D) := r.imp (fun b hb hm => by
    rcases List.mem_cons.mp hm with rfl | hm
    · exact hb.2 rfl
    · exact F.nM b hb.1 hm) fun _ _ _ e => e
  show wpAny _ _ (assign (.Name x p') env (.ref D)) _ _ _
  refine assign_Name ?_
  obtain ⟨m, hns, hm⟩ := F1.ns
  refine wpAny_storeName_local hl hns (fun h' hn sb => ?_) (by rw [hk]; rfl)
  have out : ∀ b, b ∉ C :: M → b ≠ env.locals := fun b hb e => hb (e ▸ F1.inM)
  refine ⟨mC, hnC.sameBut sb (Ne.symm hCL), fun h'' sb'' => wpAny_pure (wpAny_pure ?_)⟩
  have F2 : FC env (C :: M) ((x, .list (((List.range n).filter keep).map R)) :: ρ) { s' with heap := h', toks := s'.toks + 1 } := by
    refine ⟨⟨_, hn, fun y dy hy hly => ?_⟩, fun y dy hy hly => ?_, fun y c hc => ?_, F1.apart, F1.inM, fun b hb => ?_, Nat.le_succ_of_le F1.tk⟩
    · by_cases hyx : y = x
      · subst hyx
        simp at hy; subst hy
        exact ⟨.ref D, by simp, rr.imp (fun _ z => z) fun b o hb e => sb.extBut b o (out b hb) e⟩
      · have : (y == x) = false := by simpa using hyx
        rw [List.lookup_cons, this] at hy
        obtain ⟨u, hu, ru⟩ := hm y dy hy hly
        exact ⟨u, by simp [hyx, hu], ru.imp (fun _ z => z) fun b o hb e => sb.extBut b o (out b hb) e⟩
    · by_cases hyx : y = x
      · subst hyx; rw [hl] at hly; cases hly
      · have : (y == x) = false := by simpa using hyx
        rw [List.lookup_cons, this] at hy
        obtain ⟨c, u, hc, hi, ru⟩ := F1.cell y dy hy hly
        exact ⟨c, u, hc, hi.sameBut sb (F1.live y c hc).2.2, ru.imp (fun _ z => z) fun b o hb e => sb.extBut b o (out b hb) e⟩
    · obtain ⟨⟨u, hu⟩, h⟩ := F1.live y c hc
      exact ⟨⟨u, hu.sameBut sb h.2⟩, h⟩
    · show (h'.get? b).isSome = true
      by_cases hbl : b = env.locals
      · subst hbl
        obtain ⟨o, es, ep, ho, _⟩ := hn
        rw [ho]; rfl
      · obtain ⟨o, ho⟩ := Option.isSome_iff_exists.mp (F1.all b hb)
        rw [sb.extBut b o hbl ho]; rfl
  have F3 := F2.dropC (h' := h'') hCL F.inM (fun y c hc => ⟨hCM _ (F.live y c hc).2.1, (F.live y c hc).2.1⟩) hCM sb''
  refine (hq _ F3 ?_).run
  obtain ⟨h2, t2, rfl, e2, l2⟩ := kp
  refine ⟨h'', _, rfl, fun b o hb e => sb''.extBut b o (fun q => by subst q; rw [hC] at e; cases e) (sb.extBut b o (fun q => hb (q ▸ F.inM)) (e2 b o e)), fun b hb e => F3.all b hb, Nat.le_succ_of_le l2⟩
end T55

end
section
open PySem PySem.W PyProof.Rows PySem.Calls
namespace T55
set_option maxRecDepth 100000
set_option linter.unusedVariables false
variable {w : World} {A : Around} {env : Env} {h₁ : Heap} {s : Shared} {ρ : List (Str × PV)}
theorem compTurn_two0 (elt t1 i1 t2 i2 : Expr) (scope : Scope) (pos : Pos) (it acc : Value) (env : Env) :
    compTurn (.ListComp elt [⟨t1, i1, [], 0⟩, ⟨t2, i2, [], 0⟩] scope pos) 0 it acc env = (standAt i1.pos >>= fun _ => pyNext it >>= fun r => match r with
      | none => pure (.done .next)
      | some v => letOwnedTupleGo t1 it v >>= fun _ => assign t1 env v >>= fun _ =>
        eval i2 env >>= fun x => standAt i2.pos >>= fun _ => foldedSetIterable i2 env x >>= fun x => holding [x] (pyIter x) >>= fun it2 => runOwn (.compStart (.ListComp elt [⟨t1, i1, [], 0⟩, ⟨t2, i2, [], 0⟩] scope pos) 1 it2 acc env) env >>= fun _ =>
          again (.compLoop (.ListComp elt [⟨t1, i1, [], 0⟩, ⟨t2, i2, [], 0⟩] scope pos) 0 it acc env)) := by rfl
theorem compTurn_two1 (elt t1 i1 t2 i2 : Expr) (scope : Scope) (pos : Pos) (it acc : Value) (env : Env) :
    compTurn (.ListComp elt [⟨t1, i1, [], 0⟩, ⟨t2, i2, [], 0⟩] scope pos) 1 it acc env = (standAt i2.pos >>= fun _ => pyNext it >>= fun r => match r with
      | none => pure (.done .next)
      | some v => letOwnedTupleGo t2 it v >>= fun _ => assign t2 env v >>= fun _ =>
        (eval elt env >>= fun x => call (.builtin "list.append") [acc, x] >>= fun _ => pure ()) >>= fun _ =>
          again (.compLoop (.ListComp elt [⟨t1, i1, [], 0⟩, ⟨t2, i2, [], 0⟩] scope pos) 1 it acc env)) := by rfl
theorem compStart_two1 {R : Result → Shared → Prop} {elt t1 i1 t2 i2 scope pos it acc env}
    (h0 : codeAny (model PW w) A (.compLoop (.ListComp elt [⟨t1, i1, [], 0⟩, ⟨t2, i2, [], 0⟩] scope pos) 1 it acc env) R s)
    (h : wpAny (model PW w) A (pyIter it) (fun it' s' => codeAny (model PW w) A (.compLoop (.ListComp elt [⟨t1, i1, [], 0⟩, ⟨t2, i2, [], 0⟩] scope pos) 1 it' acc env) R s')
      (notedBy (model PW w) A env fun x s' => R (.error x) s') s) :
    codeAny (model PW w) A (.compStart (.ListComp elt [⟨t1, i1, [], 0⟩, ⟨t2, i2, [], 0⟩] scope pos) 1 it acc env) R s := by
  refine codeAny_of_tree ?_
  show wpAny _ _ ((compStart (.ListComp elt [⟨t1, i1, [], 0⟩, ⟨t2, i2, [], 0⟩] scope pos) 1 it acc env).onRaise (fun x => do noteFrame x env; standAt theWindowsPlace)) _ _ s
  refine wpAny_notedAt ?_
  unfold compStart
  show wpAny _ _ (ask >>= _) _ _ s
  refine wpAny_bind (wpAny_askSetting (wpAny_ite ?_))
  split
  · first
      | exact wpAny_bind (wpAny_pure (wpAny_pure (And.intro rfl h0)))
      | exact wpAny_pure (And.intro rfl h0)
  · first
      | exact wpAny_bind (wpAny_rule (wpAny_bind (wpAny_standAt (wpAny_bind (wpAny_mono h (fun it' s' h' => wpAny_pure (And.intro rfl h')) fun _ _ x => x)))))
      | (refine wpAny_bind (wpAny_rule ?_); show wpAny _ _ (standAt i2.pos >>= _) _ _ s; exact wpAny_bind (wpAny_standAt (wpAny_bind (wpAny_mono h (fun it' s' h' => wpAny_pure (And.intro rfl h')) fun _ _ x => x))))
/-- kept but for some addresses, alive or not -/
noncomputable def KB (M : List Addr) (s s' : Shared) : Prop := ∃ h' tk, s' = { s with heap := h', toks := tk } ∧ (∀ b o, b ∉ M → s.heap.get? b = some o → h'.get? b = some o) ∧ s.toks ≤ tk
theorem KB.refl (M : List Addr) (s : Shared) : KB M s s := ⟨s.heap, s.toks, rfl, fun _ _ _ e => e, Nat.le_refl _⟩
theorem KB.trans {M : List Addr} {s s' s'' : Shared} (a : KB M s s') (b : KB M s' s'') : KB M s s'' := by
  obtain ⟨h1, t1, rfl, e1, l1⟩ := a
  obtain ⟨h2, t2, rfl, e2, l2⟩ := b
  exact ⟨h2, t2, rfl, fun b o x e => e2 b o x (e1 b o x e), Nat.le_trans l1 l2⟩
theorem KB.of_kp {M : List Addr} {s s' : Shared} (a : Kp s s') : KB M s s' := by obtain ⟨h1, t1, rfl, e1, l1⟩ := a; exact ⟨h1, t1, rfl, fun b o _ e => e1 b o e, l1⟩
theorem KB.of_tk {M : List Addr} {L : Addr} {s s' : Shared} (hL : L ∈ M) (a : TK L s s') : KB M s s' := by obtain ⟨h1, t1, rfl, e1, _, l1⟩ := a; exact ⟨h1, t1, rfl, fun b o hb e => e1 b o (fun q => hb (q ▸ hL)) e, l1⟩
theorem KB.get {M : List Addr} {s s' : Shared} (k : KB M s s') {b : Addr} {o : Obj} (ne : b ∉ M) (e : s.heap.get? b = some o) : s'.heap.get? b = some o := by
  obtain ⟨h1, t1, rfl, e1, l1⟩ := k
  exact e1 _ _ ne e
theorem KB.ext {M : List Addr} {s s' : Shared} {h : Heap} (k : KB M s s') (hM : ∀ b ∈ M, h.get? b = none) (x : Ext h s.heap) : Ext h s'.heap := fun b o e => k.get (fun hb => by rw [hM b hb] at e; cases e) (x b o e)
theorem KB.mono {M M' : List Addr} {s s' : Shared} (k : KB M s s') (le : ∀ b, b ∈ M → (s.heap.get? b).isSome = true → b ∈ M') : KB M' s s' := by
  obtain ⟨h1, t1, rfl, e1, l1⟩ := k
  exact ⟨h1, t1, rfl, fun b o hb e => e1 b o (fun hm => hb (le b hm (by rw [e]; rfl))) e, l1⟩
noncomputable def InnerI (env : Env) (ρ : List (Str × PV)) (D : Addr) (fp : List Addr) (ds : List PV) (Rj : Nat → PV) (St : Nat → Heap → Prop) (h₀ : Heap) (m : Nat) (s : Shared) (k : Nat) (s' : Shared) : Prop :=
  ∃ j, j ≤ m ∧ k = m + 1 - j ∧ St j s'.heap ∧ T55.Fr env ρ s' ∧ LstO D (ds ++ (List.range j).map Rj) s' ∧ KB (env.locals :: D :: fp) s s' ∧ Ext h₀ s'.heap
noncomputable def EndQ (R : Result → Shared → Prop) (c : Code) (I : Nat → Shared → Prop) (n : Nat) : Fin → Shared → Prop := fun fin s' => match fin with
  | .done f => R (.ok f) s'
  | .again c' => c' = c ∧ ∃ m, m < n ∧ I m s'
/-- the inner loop of a comprehension of two clauses -/
theorem comp_inner {R : Result → Shared → Prop} {elt t1 i1 i2 : Expr} {y : Str} {p : Pos} {scope : Scope} {pos : Pos} {I D : Addr} {fp : List Addr} {m : Nat} {D2 Rj : Nat → PV} {St : Nat → Heap → Prop} {h₀ : Heap} {ds : List PV}
    (W : It w A h₀ 1 (.Name y p) I fp m D2 St) (x : Ext h₀ s.heap) (st : St 0 s.heap) (hCD : D ≠ env.locals) (hC0 : h₀.get? env.locals = none) (hD0 : h₀.get? D = none) (hCf : env.locals ∉ fp) (hDf : D ∉ fp)
    (hk : env.scope.kind = .function) (hy : env.kindOf y = some .local) (F : T55.Fr env ρ s) (hi : ∀ p ∈ ρ, Imm p.2) (L : LstO D ds s) (hsz : ds.length + m ≤ 1000)
    (helt : ∀ j, j < m → ∀ s', T55.Fr env ((y, D2 j) :: ρ) s' → Ext h₀ s'.heap → KB (env.locals :: D :: fp) s s' → EvP w A env s'.heap elt (Rj j)) (hR : ∀ j, Imm (Rj j)) (hD2 : ∀ j, Imm (D2 j)) (hxi : (ρ.lookup y) = none)
    (fin : ∀ s', T55.Fr env ρ s' → LstO D (ds ++ (List.range m).map Rj) s' → KB (env.locals :: D :: fp) s s' → R (.ok .next) s') :
    codeAny (model PW w) A (.compLoop (.ListComp elt [⟨t1, i1, [], 0⟩, ⟨.Name y p, i2, [], 0⟩] scope pos) 1 (.ref I) (.ref D) env) R s := by
  refine codeAny_loop rfl (InnerI env ρ D fp ds Rj St h₀ m s) (fun k s' hI => ?_) (m + 1)
    ⟨0, Nat.zero_le _, rfl, st, F, by simpa using L, KB.refl _ _, x⟩
  obtain ⟨j, hj, rfl, stj, Fj, Lj, kj, xj⟩ := hI
  show wpAny _ A ((compTurn (.ListComp elt [⟨t1, i1, [], 0⟩, ⟨.Name y p, i2, [], 0⟩] scope pos) 1 (.ref I) (.ref D) env).onRaise (fun x => do noteFrame x env; theTreesLotGoes x)) _ _ s'
  refine wpAny_noted ?_
  rw [compTurn_two1]
  show wpAny _ _ _ (EndQ R (.compLoop (.ListComp elt [⟨t1, i1, [], 0⟩, ⟨.Name y p, i2, [], 0⟩] scope pos) 1 (.ref I) (.ref D) env) (InnerI env ρ D fp ds Rj St h₀ m s) (m + 1 - j)) _ _
  have kf : ∀ (h' : Heap) (tk : Nat), s'.toks ≤ tk → (∀ b o, b ∉ fp → s'.heap.get? b = some o → h'.get? b = some o) → T55.Fr env ρ { s' with heap := h', toks := tk } ∧ LstO D (ds ++ (List.range j).map Rj) { s' with heap := h', toks := tk } ∧ KB (env.locals :: D :: fp) s { s' with heap := h', toks := tk } := fun h' tk le hkk =>
    ⟨Fj.stab (imm3 hi) (fun o e => hkk _ _ hCf e) le, Lj.get fun o e => hkk _ _ hDf e, kj.trans ⟨h', tk, rfl, fun b o hb e => hkk b o (fun hm => hb (by simp [hm])) e, le⟩⟩
  refine wpAny_bind (wpAny_standAt (wpAny_bind ?_))
  by_cases hlt : j < m
  · refine wpAny_mono (W.item j s' (fun v s₂ => wpAny (model PW w) A (assign (.Name y p) env v >>= fun _ => (eval elt env >>= fun x => call (.builtin "list.append") [Value.ref D, x] >>= fun _ => pure ()) >>= fun _ => again (.compLoop (.ListComp elt [⟨t1, i1, [], 0⟩, ⟨.Name y p, i2, [], 0⟩] scope pos) 1 (.ref I) (.ref D) env)) (EndQ R (.compLoop (.ListComp elt [⟨t1, i1, [], 0⟩, ⟨.Name y p, i2, [], 0⟩] scope pos) 1 (.ref I) (.ref D) env) (InnerI env ρ D fp ds Rj St h₀ m s) (m + 1 - j)) (notedBy (model PW w) A env fun e s' => R (.error e) s') s₂) (notedBy (model PW w) A env fun e s' => R (.error e) s') hlt xj Fj.tk stj fun v h' tk rv st' le hkk => ?_) (fun r s₁ z => ?_) fun _ _ e => e
    rotate_left
    · obtain ⟨v, rfl, z⟩ := z
      exact wpAny_bind z
    obtain ⟨F1, L1, k1⟩ := kf h' tk le hkk
    refine wpAny_bind (as_name F1 (RepP.imm (hD2 j) rv.rep) hy hk fun s₂ F2 t2 => ?_)
    have x1 : Ext h₀ h' := fun b o e => hkk b o (fun hm => by rw [W.new b hm] at e; cases e) (xj b o e)
    have x2 : Ext h₀ s₂.heap := t2.ext hC0 x1
    refine wpAny_bind (wpAny_bind ((helt j hlt s₂ F2 x2 (k1.trans (KB.of_tk (by simp) t2))).use (Ext.refl _) F2.tk fun v3 s₃ rv3 k3 => wpAny_bind ?_))
    have L3 := (L1.tk hCD t2).kp k3
    obtain ⟨vs, hv, hr⟩ := L3.pl
    have hlen : vs.toArray.size ≤ sizeLine := by
      rw [List.size_toArray, hr.length, sizeLine_eq]
      simp only [List.length_append, List.length_map, List.length_range]
      omega
    refine wpAny_list_append_plain (hsz := hlen) hv fun h₅ hl₅ hs₅ => wpAny_pure (wpAny_pure ?_)
    refine ⟨rfl, m + 1 - (j + 1), by omega, j + 1, hlt, rfl, ?_, ?_, ⟨?_, vs ++ [v3], by simpa using hl₅, ?_⟩, ?_, ?_⟩
    · refine W.frame _ _ _ st' fun b hb o e => hs₅.extBut b o (fun q => hDf (q ▸ hb)) (k3.ext _ _ (t2.get (fun q => hCf (q ▸ hb)) e))
    · have F3 := (F2.weaken (ρ' := ρ) fun z d hz => by
        rw [List.lookup_cons]
        by_cases q : z = y
        · subst q; rw [hxi] at hz; cases hz
        · have : (z == y) = false := by simpa using q
          rw [this]; exact hz).kp k3
      exact F3.stab (h' := h₅) (tk := s₃.toks) (imm3 hi) (fun o e => hs₅.extBut _ _ (Ne.symm hCD) e) (Nat.le_refl _)
    · intro d hd
      rcases List.mem_append.mp hd with h | h
      · exact L.im d h
      · obtain ⟨q, _, rfl⟩ := List.mem_map.mp h; exact hR q
    · have e4 : ds ++ (List.range (j + 1)).map Rj = (ds ++ (List.range j).map Rj) ++ [Rj j] := by rw [List.range_succ]; simp
      show RepL h₅ _ _
      rw [e4]
      exact RepL.snoc (RepL.immAny L3.im hr) (RepP.imm (k := fun _ => True) (hR j) rv3).rep
    · exact k1.trans ((KB.of_tk (by simp) t2).trans ((KB.of_kp k3).trans ⟨h₅, s₃.toks, rfl, fun b o hb e => hs₅.extBut b o (fun q => hb (by simp [q])) e, Nat.le_refl _⟩))
    · exact fun b o e => hs₅.extBut b o (fun q => by rw [q, hD0] at e; cases e) (k3.ext _ _ (x2 b o e))
  · have hjm : j = m := by omega
    subst hjm
    refine W.done s' _ _ xj stj fun h' tk le hkk => wpAny_pure ?_
    obtain ⟨F1, L1, k1⟩ := kf h' tk le hkk
    exact fin _ F1 L1 k1
end T55

end
section
open PySem PySem.W PyProof.Rows PySem.Calls
namespace T55
set_option maxRecDepth 100000
set_option linter.unusedVariables false
variable {w : World} {A : Around} {env : Env} {h₁ : Heap} {s : Shared} {ρ : List (Str × PV)}
noncomputable def flatI (m : Nat → Nat) (R : Nat → Nat → PV) (i : Nat) : List PV := (List.range i).flatMap fun i => (List.range (m i)).map (R i)
theorem flatI_succ (m : Nat → Nat) (R : Nat → Nat → PV) (i : Nat) : flatI m R (i + 1) = flatI m R i ++ (List.range (m i)).map (R i) := by
  unfold flatI
  rw [List.range_succ, List.flatMap_append]
  simp
theorem flatI_mono (m : Nat → Nat) (R : Nat → Nat → PV) : ∀ (k i : Nat), (flatI m R i).length ≤ (flatI m R (i + k)).length
  | 0, i => Nat.le_refl _
  | k + 1, i => by
    refine Nat.le_trans (flatI_mono m R k i) ?_
    rw [← Nat.add_assoc, flatI_succ, List.length_append]
    exact Nat.le_add_right _ _
noncomputable def OuterI (D C : Addr) (fp : List Addr) (m : Nat → Nat) (R : Nat → Nat → PV) (St : Nat → Heap → Prop) (h₀ : Heap) (e : Env) (n : Nat) (s : Shared) (k : Nat) (s' : Shared) : Prop :=
  ∃ i, i ≤ n ∧ k = n + 1 - i ∧ St i s'.heap ∧ T55.Fr e [] s' ∧ LstO D (flatI m R i) s' ∧ KB (C :: D :: fp) s s' ∧ Ext h₀ s'.heap
noncomputable def RunR (Q : Shared → Prop) (Eb : Value → Shared → Prop) : Result → Shared → Prop := fun r s' => match r with
  | .ok _ => Q s'
  | .error x => Eb x s'
/-- an outer turn, behind the step of its iterator -/
theorem outer_turn {Qf : Fin → Shared → Prop} {Ef : Value → Shared → Prop} {tg i1 i2 elt : Expr} {y : Str} {p : Pos} {scope : Scope} {pos : Pos} {mi : Nat} {d1 : PV} {D2 Ri : Nat → PV} {ρi : List (Str × PV)} {e : Env} {C D I : Addr} {fp : List Addr} {ds : List PV} {h₀ : Heap} {v : Value}
    (ce : CE env e scope C) (eL : e.locals = C) (hDC : D ≠ C) (h0C : h₀.get? C = none) (h0D : h₀.get? D = none) (x01 : Ext h₁ h₀) (hCf : C ∉ fp) (hDf : D ∉ fp)
    (has : AsP w A tg e d1 ρi) (hρ : ∀ p ∈ ρi, Imm p.2) (hρy : ρi.lookup y = none) (hy : scope.names.lookup y = some .local)
    (hit2 : ∀ (s : Shared), Ext h₁ s.heap → T55.Fr e ρi s → (∀ b ∈ [C, D], (s.heap.get? b).isSome = true) → ItM w A e [C, D] s (.Name y p) i2 mi D2)
    (helt : ∀ j, j < mi → ∀ (s : Shared), Ext h₁ s.heap → T55.Fr e ((y, D2 j) :: ρi) s → EvP w A e s.heap elt (Ri j)) (hR : ∀ j, Imm (Ri j)) (hD2 : ∀ j, Imm (D2 j))
    (hs2 : ∀ x, foldedSetIterable i2 e x = pure x) (F1 : T55.Fr e [] s) (L1 : LstO D ds s) (x1 : Ext h₀ s.heap) (hsz : ds.length + mi ≤ 1000) (rv : RepP (fun b => b ≠ C) s.heap d1 v) (afp : ∀ b ∈ fp, (s.heap.get? b).isSome = true)
    (hnext : ∀ s₇, T55.Fr e [] s₇ → LstO D (ds ++ (List.range mi).map Ri) s₇ → KB [C, D] s s₇ → Ext h₀ s₇.heap → Qf (.again (.compLoop (.ListComp elt [⟨tg, i1, [], 0⟩, ⟨.Name y p, i2, [], 0⟩] scope pos) 0 (.ref I) (.ref D) e)) s₇) :
    wpAny (model PW w) A (assign tg e v >>= fun _ =>
        eval i2 e >>= fun x => standAt i2.pos >>= fun _ => foldedSetIterable i2 e x >>= fun x => holding [x] (pyIter x) >>= fun it2 => runOwn (.compStart (.ListComp elt [⟨tg, i1, [], 0⟩, ⟨.Name y p, i2, [], 0⟩] scope pos) 1 it2 (.ref D) e) e >>= fun _ =>
          again (.compLoop (.ListComp elt [⟨tg, i1, [], 0⟩, ⟨.Name y p, i2, [], 0⟩] scope pos) 0 (.ref I) (.ref D) e)) Qf Ef s := by
  refine wpAny_bind (wpAny_mono (has s _ v F1 (by rw [eL]; exact rv)) (fun _ s₄ z => ?_) fun _ _ q => q)
  obtain ⟨F4, t4⟩ := z
  rw [eL] at t4
  have L4 := L1.tk hDC t4
  have x4 : Ext h₀ s₄.heap := t4.ext h0C x1
  have alM : ∀ b ∈ [C, D], (s₄.heap.get? b).isSome = true := fun b hb => by
    simp only [List.mem_cons, List.not_mem_nil, or_false] at hb
    rcases hb with rfl | rfl
    · have := F4.isS; rw [eL] at this; exact this
    · exact L4.isS
  refine wpAny_bind (wpAny_mono ((hit2 s₄ (x01.trans x4) F4 alM).run _) (fun xv s₅ z => wpAny_bind (wpAny_standAt (wpAny_bind (wpAny_of_eq (hs2 xv) (wpAny_bind (wpAny_holding (wpAny_mono z (fun it s₆ z₂ => ?_) fun _ _ q => q))))))) fun _ _ q => q)
  obtain ⟨⟨h₂, I2, fp2, St2, rfl, hM0, hMf, x6, W2, st2, hfp2⟩, q6⟩ := z₂
  refine wpAny_bind (wpAny_runOwn ?_)
  have F6 := F4.kp q6
  have L6 := L4.kp q6
  have nh1 : ∀ b ∈ C :: D :: fp2, h₀.get? b = none := fun b hb => by
    rcases List.mem_cons.mp hb with rfl | hb
    · exact h0C
    rcases List.mem_cons.mp hb with rfl | hb
    · exact h0D
    · exact Nw.of x4 (hfp2 b hb)
  have inner : codeAny (model PW w) A (.compLoop (.ListComp elt [⟨tg, i1, [], 0⟩, ⟨.Name y p, i2, [], 0⟩] scope pos) 1 (.ref I2) (.ref D) e) (RunR (fun s' => wpAny (model PW w) A (again (.compLoop (.ListComp elt [⟨tg, i1, [], 0⟩, ⟨.Name y p, i2, [], 0⟩] scope pos) 0 (.ref I) (.ref D) e)) Qf Ef s') (fun x s' => cameBackBy (model PW w) A e Ef x s')) s₆ := by
    refine comp_inner W2 x6 st2 (by rw [eL]; exact hDC) (by rw [eL]; exact hM0 C (by simp)) (hM0 D (by simp)) (by rw [eL]; exact hMf C (by simp)) (hMf D (by simp)) ce.k (ce.own _ _ hy (by decide)) F6 hρ L6 hsz
      (fun j hj s' Fs xs kb => helt j hj s' (kb.ext (fun b hb => Nw.of x01 (nh1 b (by rw [eL] at hb; exact hb))) (x01.trans (x4.trans q6.ext))) Fs) hR hD2 hρy (fun s₇ F7 L7 k7 => ?_)
    rw [eL] at k7
    refine wpAny_pure (hnext s₇ (F7.weaken (fun z d hz => by cases hz)) L7 ?_ (k7.ext nh1 (x4.trans q6.ext)))
    have k46 : KB [C, D] s s₄ := KB.of_tk (by simp) t4
    obtain ⟨h4, t4', rfl, e4, l4⟩ := k46
    obtain ⟨h6, t6, rfl, e6, l6⟩ := q6
    obtain ⟨h7, t7, rfl, e7, l7⟩ := k7
    refine ⟨h7, t7, rfl, fun b o hb e => e7 b o (fun hm => ?_) (e6 _ _ (e4 b o hb e)), Nat.le_trans l4 (Nat.le_trans l6 l7)⟩
    rcases List.mem_cons.mp hm with rfl | hm
    · exact hb (by simp)
    rcases List.mem_cons.mp hm with rfl | hm
    · exact hb (by simp)
    · have := hfp2 b hm
      rw [show ({ s with heap := h4, toks := t4' } : Shared).heap.get? b = some o from e4 b o hb e] at this
      cases this
  have fin : ∀ r s', RunR (fun s' => wpAny (model PW w) A (again (.compLoop (.ListComp elt [⟨tg, i1, [], 0⟩, ⟨.Name y p, i2, [], 0⟩] scope pos) 0 (.ref I) (.ref D) e)) Qf Ef s') (fun x s' => cameBackBy (model PW w) A e Ef x s') r s' →
      (match r with | .ok f => (fun (_ : Flow) s' => wpAny (model PW w) A (again (.compLoop (.ListComp elt [⟨tg, i1, [], 0⟩, ⟨.Name y p, i2, [], 0⟩] scope pos) 0 (.ref I) (.ref D) e)) Qf Ef s') f s' | .error x => cameBackBy (model PW w) A e Ef x s') := fun r s' z => by
    cases r <;> exact z
  exact codeAny_mono (compStart_two1 inner (W2.iter 0 _ _ _ st2 inner)) fin
theorem ev_comp2 {tg i1 i2 elt : Expr} {y : Str} {p : Pos} {scope : Scope} {pos : Pos} {n : Nat} {D1 : Nat → PV} {m : Nat → Nat} {D2 R : Nat → Nat → PV} {ρt : Nat → List (Str × PV)}
    (hfree : ∀ y ∈ scope.names, y.2 = .free → (env.cells.lookup y.1).isSome = true) (hcell : ∀ y ∈ scope.names, y.2 ≠ .cell) (hkind : scope.kind = .function)
    (hnames : ∀ y ∈ scope.names, y.2 = .local → scope.names.lookup y.1 = some .local) (hy : scope.names.lookup y = some .local)
    (hit : ItP w A env h₁ 1 tg i1 n D1) (hsz : (flatI m R n).length ≤ 1000) (hms : ∀ i, i < n → m i ≤ 100)
    (has : ∀ i, i < n → ∀ env' C, CE env env' scope C → AsP w A tg env' (D1 i) (ρt i)) (hρ : ∀ i, ∀ p ∈ ρt i, Imm p.2) (hρy : ∀ i, (ρt i).lookup y = none)
    (hit2 : ∀ i, i < n → ∀ env' C D (s : Shared), CE env env' scope C → Ext h₁ s.heap → T55.Fr env' (ρt i) s → (∀ b ∈ [C, D], (s.heap.get? b).isSome = true) → ItM w A env' [C, D] s (.Name y p) i2 (m i) (D2 i))
    (helt : ∀ i, i < n → ∀ j, j < m i → ∀ env' C (s : Shared), CE env env' scope C → Ext h₁ s.heap → T55.Fr env' ((y, D2 i j) :: ρt i) s → EvP w A env' s.heap elt (R i j)) (hR : ∀ i j, Imm (R i j)) (hD2 : ∀ i j, Imm (D2 i j))
    (hs : ∀ x, foldedSetIterable i1 env x = pure x := by intro _; rfl) (hs2 : ∀ e x, foldedSetIterable i2 e x = pure x := by intro _ _; rfl) :
    EvF w A env h₁ (.ListComp elt [⟨tg, i1, [], 0⟩, ⟨.Name y p, i2, [], 0⟩] scope pos) (.list (flatI m R n)) := .mk fun s E k t => by
  obtain ⟨cl, hclos, hlook⟩ := clo_ok hfree
  rw [eval_ListComp]
  refine wpAny_comprehension_free (use := none) rfl hs hclos hkind hnames ?_
  refine wpAny_mono (hit.run s E k t) (fun xv s₁ z₁ => wpAny_mono z₁ (fun it s₂ z₂ => ?_) fun _ _ e => e) fun _ _ e => e
  obtain ⟨⟨h₀, I, fp, St, rfl, x0, x2, W, st0⟩, q2⟩ := z₂
  refine wpAny_newObj_type (wpAny_newFunctionEnv hcell (by intro y hy; simp at hy) (fun H₁ hns₁ hsb₁ => ?_) hkind)
  dsimp only at hns₁ hsb₁ ⊢
  generalize hH2 : s₂.heap.push { cls := .type "list", dict := none, data := .seq ([] : List Value).toArray } = H2 at hns₁ hsb₁ ⊢
  have hC : H2.objs.size = s₂.heap.objs.size + 1 := by rw [← hH2, Heap.size_push]
  have hDC : s₂.heap.objs.size ≠ H2.objs.size := by rw [hC]; exact Nat.ne_of_lt (Nat.lt_succ_self _)
  have nD : s₂.heap.get? s₂.heap.objs.size = none := Heap.get?_none_of_le (Nat.le_refl _)
  have nC : s₂.heap.get? H2.objs.size = none := Heap.get?_none_of_le (by rw [hC]; exact Nat.le_succ _)
  have old : ∀ b o, s₂.heap.get? b = some o → H₁.get? b = some o := fun b o e =>
    hsb₁.extBut b o (fun q => by rw [q, nC] at e; cases e) (Heap.get?_push_of_some _ (hH2 ▸ Heap.get?_push_of_some _ e))
  have hacc : H₁.PlainList s₂.heap.objs.size #[] := ⟨_, hsb₁.extBut _ _ hDC (Heap.get?_push_of_some _ (hH2 ▸ Heap.get?_push_size _ rfl))⟩
  have hst₁ : St 0 H₁ := W.frame _ _ _ st0 fun b _ o e => old b o e
  have k2 : Ext h₁ s₂.heap := k.trans q2.ext
  have hfp : ∀ b ∈ fp, (s₂.heap.get? b).isSome = true := fun b hb => W.live 0 _ st0 b hb
  have hDf : s₂.heap.objs.size ∉ fp := fun hm => by have := hfp _ hm; rw [nD] at this; cases this
  have hCf : H2.objs.size ∉ fp := fun hm => by have := hfp _ hm; rw [nC] at this; cases this
  have h0C : h₀.get? H2.objs.size = none := Nw.of x2 nC
  have h0D : h₀.get? s₂.heap.objs.size = none := Nw.of x2 nD
  have ce : CE env (compEnvC scope cl H2.objs.size env) scope H2.objs.size := ce_comp hkind hlook
  have loop : ∀ s₃ : Shared, s₃ = { s₂ with heap := H₁, toks := s₂.toks + ([] : List (Str × Value)).length } →
      codeAny (model PW w) A (.compLoop (.ListComp elt [⟨tg, i1, [], 0⟩, ⟨.Name y p, i2, [], 0⟩] scope pos) 0 (.ref I) (.ref s₂.heap.objs.size) (compEnvC scope cl H2.objs.size env))
        (compPost (model PW w) A E none (fun v s' => RepP (Nw s.heap) s'.heap (.list (flatI m R n)) v ∧ Kp s s') (.ref s₂.heap.objs.size) H2.objs.size) s₃ := by
    intro s₃ hs₃
    have eL : (compEnvC scope cl H2.objs.size env).locals = H2.objs.size := rfl
    generalize compEnvC scope cl H2.objs.size env = e at ce eL ⊢
    generalize H2.objs.size = C at *
    generalize hDD : s₂.heap.objs.size = D at *
    have F3 : T55.Fr e [] s₃ := ⟨⟨_, (by rw [eL, hs₃]; exact hns₁), fun x d hx => (by cases hx)⟩, by rw [hs₃]; exact Nat.le_trans t (Nat.le_trans q2.toks (Nat.le_add_right _ _))⟩
    have x3 : Ext h₀ s₃.heap := by rw [hs₃]; exact fun b o q => old _ _ (x2 b o q)
    have kp23 : Kp s₂ s₃ := by rw [hs₃]; exact ⟨H₁, _, rfl, old, Nat.le_add_right _ _⟩
    refine codeAny_loop rfl (OuterI D C fp m R St h₀ e n s₃) (fun kk s' hI => ?_) (n + 1) ⟨0, Nat.zero_le _, rfl, by rw [hs₃]; exact hst₁, F3, ⟨by intro d hd; simp [flatI] at hd, [], by rw [hs₃]; simpa using hacc, by simp [flatI, RepL]⟩, KB.refl _ _, x3⟩
    obtain ⟨i, hi, rfl, sti, Fi, Li, ki, xi⟩ := hI
    show wpAny _ A ((compTurn (.ListComp elt [⟨tg, i1, [], 0⟩, ⟨.Name y p, i2, [], 0⟩] scope pos) 0 (.ref I) (.ref D) e).onRaise (fun x => do noteFrame x e; theTreesLotGoes x)) _ _ s'
    refine wpAny_noted ?_
    rw [compTurn_two0]
    show wpAny _ _ _ (EndQ (compPost (model PW w) A E none (fun v s' => RepP (Nw s.heap) s'.heap (.list (flatI m R n)) v ∧ Kp s s') (.ref D) C) (.compLoop (.ListComp elt [⟨tg, i1, [], 0⟩, ⟨.Name y p, i2, [], 0⟩] scope pos) 0 (.ref I) (.ref D) e) (OuterI D C fp m R St h₀ e n s₃) (n + 1 - i)) _ _
    have x01 : Ext h₁ h₀ := fun b o q => x0 b o (k b o q)
    have h1C : h₁.get? C = none := Nw.of k2 nC
    have h1D : h₁.get? D = none := Nw.of k2 nD
    have kf : ∀ (h' : Heap) (tk : Nat), s'.toks ≤ tk → (∀ b o, b ∉ fp → s'.heap.get? b = some o → h'.get? b = some o) → T55.Fr e [] { s' with heap := h', toks := tk } ∧ LstO D (flatI m R i) { s' with heap := h', toks := tk } ∧ KB (C :: D :: fp) s₃ { s' with heap := h', toks := tk } ∧ Ext h₀ h' := fun h' tk le hkk =>
      ⟨Fi.stab (fun x d hx => by cases hx) (fun o q => hkk _ _ (by rw [eL]; exact hCf) q) le, Li.get fun o q => hkk _ _ hDf q, ki.trans ⟨h', tk, rfl, fun b o hb q => hkk b o (fun hm => hb (by simp [hm])) q, le⟩, fun b o q => hkk b o (fun hm => by rw [W.new b hm] at q; cases q) (xi b o q)⟩
    refine wpAny_bind (wpAny_standAt (wpAny_bind ?_))
    by_cases hlt : i < n
    · refine wpAny_mono (W.item i s' (fun v s₂ => wpAny (model PW w) A (assign tg e v >>= fun _ =>
        eval i2 e >>= fun x => standAt i2.pos >>= fun _ => foldedSetIterable i2 e x >>= fun x => holding [x] (pyIter x) >>= fun it2 => runOwn (.compStart (.ListComp elt [⟨tg, i1, [], 0⟩, ⟨.Name y p, i2, [], 0⟩] scope pos) 1 it2 (.ref D) e) e >>= fun _ =>
          again (.compLoop (.ListComp elt [⟨tg, i1, [], 0⟩, ⟨.Name y p, i2, [], 0⟩] scope pos) 0 (.ref I) (.ref D) e))
        (EndQ (compPost (model PW w) A E none (fun v s' => RepP (Nw s.heap) s'.heap (.list (flatI m R n)) v ∧ Kp s s') (.ref D) C) (.compLoop (.ListComp elt [⟨tg, i1, [], 0⟩, ⟨.Name y p, i2, [], 0⟩] scope pos) 0 (.ref I) (.ref D) e) (OuterI D C fp m R St h₀ e n s₃) (n + 1 - i))
        (notedBy (model PW w) A e fun x s' => compPost (model PW w) A E none (fun v s' => RepP (Nw s.heap) s'.heap (.list (flatI m R n)) v ∧ Kp s s') (.ref D) C (.error x) s') s₂)
        (notedBy (model PW w) A e fun x s' => compPost (model PW w) A E none (fun v s' => RepP (Nw s.heap) s'.heap (.list (flatI m R n)) v ∧ Kp s s') (.ref D) C (.error x) s') hlt xi Fi.tk sti fun v h' tk rv st' le hkk => ?_) (fun r s₁ z => ?_) fun _ _ e => e
      rotate_left
      · obtain ⟨v, rfl, z⟩ := z
        exact wpAny_bind z
      obtain ⟨F1, L1, k1, x1⟩ := kf h' tk le hkk
      have rvC : RepP (fun b => b ≠ C) h' (D1 i) v := rv.imp (fun b hb q => by
        subst q
        rcases hb with hb | hb
        · rw [h0C] at hb; cases hb
        · have := Fi.isS
          rw [eL, hb] at this; cases this) fun _ _ _ q => q
      refine outer_turn (env := env) (h₁ := h₁) (fp := fp) ce eL hDC h0C h0D x01 hCf hDf (has i hlt e C ce) (hρ i) (hρy i) hy (fun s hx Fx al => hit2 i hlt e C D s ce hx Fx al) (fun j hj s hx Fx => helt i hlt j hj e C s ce hx Fx) (hR i) (hD2 i) (hs2 e) F1 L1 x1
        (by
          have h1 : (flatI m R (i + 1)).length ≤ (flatI m R (i + 1 + (n - (i + 1)))).length := flatI_mono m R _ _
          rw [show i + 1 + (n - (i + 1)) = n by omega] at h1
          rw [flatI_succ, List.length_append, List.length_map, List.length_range] at h1
          omega) rvC (fun b hb => W.live _ _ st' b hb) (fun s₇ F7 L7 k7 x7 => ⟨rfl, n + 1 - (i + 1), by omega, i + 1, hlt, rfl, ?_, F7, ?_, ?_, x7⟩)
      · refine W.frame _ _ _ st' fun b hb o q => k7.get (fun hm => ?_) q
        simp only [List.mem_cons, List.not_mem_nil, or_false] at hm
        rcases hm with rfl | rfl
        · exact hCf hb
        · exact hDf hb
      · rw [flatI_succ]; exact L7
      · exact k1.trans (k7.mono fun b hb _ => by simp at hb ⊢; rcases hb with rfl | rfl <;> simp)
    · have hin : i = n := by omega
      subst hin
      refine W.done s' _ _ xi sti fun h' tk le hkk => wpAny_pure ?_
      obtain ⟨F1, L1, k1, x1⟩ := kf h' tk le hkk
      obtain ⟨mm, hmm⟩ := F1.ns'
      rw [eL] at hmm
      refine ⟨mm, hmm, fun h'' sb => ⟨?_, ?_⟩⟩
      · obtain ⟨vs, hv, hr⟩ := L1.pl
        exact ⟨D, vs, rfl, Nw.of q2.ext nD, hv.at fun o q => sb.extBut _ _ hDC q, RepPL.imm L1.im hr⟩
      · have kall : KB (C :: D :: fp) s₂ { s' with heap := h', toks := tk } := (KB.of_kp kp23).trans k1
        obtain ⟨hh, tt, rfl, e2, l2⟩ := q2
        obtain ⟨ha, ta, hae, ea, la⟩ := kall
        refine ⟨h'', tk, ?_, fun b o q => ?_, ?_⟩
        · have h1 := congrArg (fun (z : Shared) => ({ z with heap := h'', toks := tk } : Shared)) hae
          exact h1
        · have q0 := x0 b o q
          have q2' := x2 b o q0
          have nb : b ∉ C :: D :: fp := fun hm => by
            rcases List.mem_cons.mp hm with rfl | hm
            · rw [h0C] at q0; cases q0
            rcases List.mem_cons.mp hm with rfl | hm
            · rw [h0D] at q0; cases q0
            · rw [W.new b hm] at q0; cases q0
          have q3 := ea b o nb q2'
          have : h' = ha := congrArg Shared.heap hae
          subst this
          exact sb.extBut b o (fun q' => nb (by simp [q'])) q3
        · have : tk = ta := congrArg Shared.toks hae
          rw [this]; exact Nat.le_trans l2 la
  exact codeAny_compStart_list (loop _ rfl) (W.iter 0 _ _ _ hst₁ (loop _ rfl))
end T55

end
section
open PySem PySem.W PyProof.Rows PySem.Calls
namespace T55
set_option maxRecDepth 100000
set_option linter.unusedVariables false
variable {w : World} {A : Around} {env : Env} {h₁ : Heap} {s : Shared} {M : List Addr} {ρ : List (Str × PV)}
/-- the names of the law -/
structure KLw (env : Env) (M : List Addr) : Prop where
  F : env.scope.kind = .function
  g : env.globals = 3
  b : env.builtins = 0
  l_script : env.kindOf "script" = some .local
  l_numbers : env.kindOf "numbers" = some .local
  l_turn : env.kindOf "turn" = some .local
  l_alphabets : env.kindOf "alphabets" = some .local
  l_rows : env.kindOf "rows" = some .local
  l_typed : env.kindOf "typed" = some .local
  l_line : env.kindOf "line" = some .local
  l_pieces : env.kindOf "pieces" = some .local
  l_names : env.kindOf "names" = some .local
  l_dear : env.kindOf "dear" = some .local
  l_sums : env.kindOf "sums" = some .local
  l_cuts : env.kindOf "cuts" = some .local
  l_tails : env.kindOf "tails" = some .local
  l_counts : env.kindOf "counts" = some .local
  l_least : env.kindOf "least" = some .local
  c_cells : env.kindOf "cells" = some .cell
  s_cells : (env.cells.lookup ("cells" : Str)).isSome = true
  c_low : env.kindOf "low" = some .cell
  s_low : (env.cells.lookup ("low" : Str)).isSome = true
  c_heads : env.kindOf "heads" = some .cell
  s_heads : (env.cells.lookup ("heads" : Str)).isSome = true
  c_plain : env.kindOf "plain" = some .cell
  s_plain : (env.cells.lookup ("plain" : Str)).isSome = true
  c_four : env.kindOf "four" = some .cell
  s_four : (env.cells.lookup ("four" : Str)).isSome = true
  c_ways : env.kindOf "ways" = some .cell
  s_ways : (env.cells.lookup ("ways" : Str)).isSome = true
  c_top : env.kindOf "top" = some .cell
  s_top : (env.cells.lookup ("top" : Str)).isSome = true
  c_masks : env.kindOf "masks" = some .cell
  s_masks : (env.cells.lookup ("masks" : Str)).isSome = true
  g_enumerate : env.kindOf "enumerate" = some .globalImplicit
  g_zip : env.kindOf "zip" = some .globalImplicit
  g_add : env.kindOf "add" = some .globalImplicit
  g_law_cut : env.kindOf "_law_cut" = some .globalImplicit
  g_range : env.kindOf "range" = some .globalImplicit
  g_max : env.kindOf "max" = some .globalImplicit
  g_law_masks : env.kindOf "_law_masks" = some .globalImplicit
  g_min : env.kindOf "min" = some .globalImplicit
  eq : ∃ (P : Params) (L : Addr), env = callEnvC (fdOf (oG149 P)) L 149
  hM : ∀ b ∈ M, b = env.locals ∨ ∃ x, env.cells.lookup x = some b
theorem klw (P : Params) (L : Addr) : KLw (callEnvC (fdOf (oG149 P)) L 149) (L :: (callEnvC (fdOf (oG149 P)) L 149).cells.map (·.2)) := ⟨by kernel_rfl, by kernel_rfl, by kernel_rfl, by kernel_rfl, by kernel_rfl, by kernel_rfl, by kernel_rfl, by kernel_rfl, by kernel_rfl, by kernel_rfl, by kernel_rfl, by kernel_rfl, by kernel_rfl, by kernel_rfl, by kernel_rfl, by kernel_rfl, by kernel_rfl, by kernel_rfl, by kernel_rfl, by kernel_rfl, by kernel_rfl, by kernel_rfl, by kernel_rfl, by kernel_rfl, by kernel_rfl, by kernel_rfl, by kernel_rfl, by kernel_rfl, by kernel_rfl, by kernel_rfl, by kernel_rfl, by kernel_rfl, by kernel_rfl, by kernel_rfl, by kernel_rfl, by kernel_rfl, by kernel_rfl, by kernel_rfl, by kernel_rfl, by kernel_rfl, by kernel_rfl, by kernel_rfl, ⟨P, L, rfl⟩, fun b hb => by
  rcases List.mem_cons.mp hb with rfl | hb
  · exact .inl rfl
  · obtain ⟨⟨x, c⟩, hm, rfl⟩ := List.mem_map.mp hb
    refine .inr ⟨x, ?_⟩
    have e : (callEnvC (fdOf (oG149 P)) L 149).cells = [(("masks" : Str), L + 8), (("top" : Str), L + 7), (("ways" : Str), L + 6), (("four" : Str), L + 5), (("plain" : Str), L + 4), (("heads" : Str), L + 3), (("low" : Str), L + 2), (("cells" : Str), L + 1)] := by kernel_rfl
    rw [e] at hm ⊢
    simp only [List.mem_cons, List.not_mem_nil, or_false, Prod.mk.injEq] at hm
    rcases hm with ⟨rfl, rfl⟩ | ⟨rfl, rfl⟩ | ⟨rfl, rfl⟩ | ⟨rfl, rfl⟩ | ⟨rfl, rfl⟩ | ⟨rfl, rfl⟩ | ⟨rfl, rfl⟩ | ⟨rfl, rfl⟩ <;> rfl⟩
theorem KLw.ge (K : KLw env M) (X : Ext (HZ w.params) h₁) : GE w env h₁ := ⟨K.g, K.b, K.F, X⟩
theorem FC.kh {s' : Shared} (F : FC env M ρ s) (k : KH [] s s') : FC env M ρ s' := by
  obtain ⟨h1, t1, g1, rfl, e1, l1⟩ := k
  have F' : FC env M ρ { s with heap := h1, toks := t1 } := F.kp ⟨h1, t1, rfl, fun b o e => e1 b o (by simp) e, l1⟩
  exact ⟨F'.ns, F'.cell, F'.live, F'.apart, F'.inM, F'.all, F'.tk⟩
/-- since a base state: kept but for M, no generator left open -/
noncomputable def Bs (M : List Addr) (s0 s : Shared) : Prop := KH M s0 s ∧ (AllBare s0.gens → AllBare s.gens)
theorem Bs.km {M : List Addr} {s0 s s' : Shared} (B : Bs M s0 s) (k : KM M s s') : Bs M s0 s' := ⟨B.1.trans (KH.of_km k), fun h => by
  have := B.2 h
  obtain ⟨_, _, rfl, _⟩ := k
  exact this⟩
theorem Bs.kp {M : List Addr} {s0 s s' : Shared} (B : Bs M s0 s) (k : Kp s s') : Bs M s0 s' := B.km (KM.of_kp k)
theorem Bs.trans {M : List Addr} {s0 s s' : Shared} (B : Bs M s0 s) (C : Bs M s s') : Bs M s0 s' := ⟨B.1.trans C.1, fun h => C.2 (B.2 h)⟩
theorem KH.mono {M M' : List Addr} {s s' : Shared} (k : KH M s s') (le : ∀ b ∈ M, b ∈ M') : KH M' s s' := by
  obtain ⟨h1, t1, g1, rfl, e1, l1⟩ := k
  exact ⟨h1, t1, g1, rfl, fun b o hb e => e1 b o (fun h => hb (le b h)) e, l1⟩
end T55

end
section
open PySem PySem.W PyProof.Rows PySem.Calls
namespace T55
set_option maxRecDepth 100000
set_option linter.unusedVariables false
variable {w : World} {A : Around} {env : Env} {h₁ : Heap} {s : Shared} {M : List Addr} {ρ : List (Str × PV)} {E : Value → Shared → Prop} {Q : Flow → Shared → Prop}
/-- x, y = e1, e2, the names stored from the left -/
theorem sc_tup2 {x y : Str} {e1 e2 : Expr} {p1 p2 tp vp pos : Pos} {k kv : Nat} {rest : List Stmt} {d1 d2 : PV} (hh : A.handled = none) (F : FC env M ρ s) (h1 : EvP w A env s.heap e1 d1) (h2 : EvP w A env s.heap e2 d2) (i1 : Imm d1) (i2 : Imm d2)
    (hx : Kl env x) (hy : Kl env y) (hk : env.scope.kind = .function)
    (hq : ∀ s', FC env M ((y, d2) :: (x, d1) :: ρ) s' → KM M s s' → Sq w A env rest Q E s')
    (hs : swapsWithSole [.Tuple [.Name x p1, .Name y p2] k tp] (.Tuple [e1, e2] kv vp) pos.line env = pure false)
    (hw : swappedStores [.Tuple [.Name x p1, .Name y p2] k tp] (.Tuple [e1, e2] kv vp) env = pure none)
    (hs1 : ∀ rest, starEach (e1 :: rest) env = (false, eval e1 env) :: starEach rest env := by intro _; rfl) (hs2 : ∀ rest, starEach (e2 :: rest) env = (false, eval e2 env) :: starEach rest env := by intro _; rfl) :
    Sq w A env (.Assign [.Tuple [.Name x p1, .Name y p2] k tp] (.Tuple [e1, e2] kv vp) pos :: rest) Q E s := by
  refine .mk (wpAny_execs_cons (Assign_Tuple ((ev_tuple (n := kv) (pos := vp) (args_cons h1 (args_cons h2 args_nil hs2) hs1) (by rw [sizeLine_eq]; show 2 ≤ 16777216; decide)).use (Ext.refl _) F.tk fun v s₁ r q => ?_) hs hw))
  obtain ⟨a, vs, rfl, ht, v1, r1, rfl, rv1, v2, r2, rfl, rv2, rfl⟩ := r
  refine wpAny_assign_Tuple (items := #[v1, v2]) hh ht rfl rfl fun h' he => ?_
  have kp : Kp s₁ { s₁ with heap := h' } := ⟨h', s₁.toks, rfl, fun b o e => he b o (Nat.ne_of_lt (Heap.lt_size e)) e, Nat.le_refl _⟩
  have F1 := (F.kp q).kp kp
  refine wpAny_assignInOrder_more (as_nameC (d := d1) F1 (RepP.imm i1 rv1) hx hk fun s₂ F2 k2 => ?_)
  refine wpAny_assignInOrder_more (as_nameC (d := d2) F2 (RepP.imm i2 rv2) hy hk fun s₃ F3 k3 => ?_)
  exact wpAny_assignInOrder_none (hq s₃ F3 ((KM.of_kp (q.trans kp)).trans (k2.trans k3))).run
noncomputable def csL (sc : List Int) : List Int := (sc.take 60).map fun c => Int.fmod c 1000000
noncomputable def firsts : List Int := [7497, 106929, 488, 47]
noncomputable def nmK (cs : List Int) (k : Nat) : Int := firsts.getD k 0 + (pick cs (some (k : Int)) none (some 4)).sum
noncomputable def alph : List Int := [119808, 119860, 119912, 120016, 120172, 120224, 120276, 120328, 120380, 120432]
noncomputable def hds (t : Int) : List Int := [97, 65, alph.getD t.toNat 0, alph.getD (t + 1).toNat 0]
theorem cs_len (sc : List Int) : (csL sc).length ≤ 60 := by simp [csL]; omega
theorem cs_bound (sc : List Int) : ∀ x ∈ csL sc, 0 ≤ x ∧ x < 2 ^ 40 := fun x hx => by
  obtain ⟨c, _, rfl⟩ := List.mem_map.mp hx
  have h0 := Int.fmod_nonneg_of_pos c (show (0 : Int) < 1000000 by decide)
  have h1 := Int.fmod_lt_of_pos c (show (0 : Int) < 1000000 by decide)
  omega
theorem sum_nonneg : ∀ (l : List Int), (∀ x ∈ l, 0 ≤ x) → 0 ≤ l.sum
  | [], _ => Int.le_refl 0
  | x :: l, h => by
    rw [List.sum_cons]
    exact Int.add_nonneg (h x List.mem_cons_self) (sum_nonneg l fun y hy => h y (List.mem_cons_of_mem _ hy))
theorem nmK_nonneg (sc : List Int) (k : Nat) : 0 ≤ nmK (csL sc) k := by
  unfold nmK
  refine Int.add_nonneg ?_ (sum_nonneg _ fun x hx => (cs_bound sc x (pick_mem hx)).1)
  unfold firsts
  match k with
  | 0 => decide
  | 1 => decide
  | 2 => decide
  | 3 => decide
  | k + 4 => simp
theorem law1 {sc : List Int} {s0 : Shared} (B : Bs M s0 s) (K : KLw env M) (hsc : sc.length ≤ 63) (X : Ext (HZ w.params) s.heap) (hzM : ∀ b ∈ M, (HZ w.params).get? b = none) (O : Ok A 2) (F : FC env M [("script", .list (pInts sc))] s)
    (hq : ∀ s', Bs M s0 s' → Ext (HZ w.params) s'.heap → FC env M [("numbers", .list (pInts ((List.range 4).map (nmK (csL sc)))))] s' → Sq w A env (List.drop 2 (bodyOf 23)) Q E s') : Sq w A env (bodyOf 23) Q E s := by
  conv in (bodyOf 23) => whnf
  have e60 : pick (pInts sc) none (some (60 : Int)) none = pInts (sc.take 60) := by
    rw [show (60 : Int) = ((60 : Nat) : Int) from rfl, pick_to]; simp [pInts, List.map_take]
  have ecs : (((List.range (pInts (sc.take 60)).length).filter fun _ => true).map fun i => PV.int (Int.fmod ((sc.take 60).getD i 0) 1000000)) = pInts (csL sc) := by
    unfold csL
    rw [filt_true, pInts_len]
    generalize sc.take 60 = l
    refine List.ext_getElem? fun i => ?_
    by_cases hi : i < l.length
    · simp [pInts, hi, List.getD_eq_getElem?_getD]
    · simp [pInts, hi]
  refine sc_assign (d := .list (pInts (csL sc))) (T := 1) F (by
    rw [← ecs]
    refine ev_list1 (T := 1) (D := nth (pInts (sc.take 60))) (R := fun i => .int (Int.fmod ((sc.take 60).getD i 0) 1000000)) (keep := fun _ => true) (ρt := fun i => [("cell", nth (pInts (sc.take 60)) i)])
        ?_ (by decide +kernel) rfl (by decide +kernel) (Nat.le_refl 1) (itp_list O.handled noGo_name (e60 ▸ ev_slice_list (F.ev (by rfl) K.F (.inl K.l_script) (by kernel_rfl)) part_none (part_some ev_int) (by rw [pInts_len, sizeLine_eq]; omega))) (by rw [pInts_len, List.length_take]; omega)
        (fun i hi env' C ce => asp_name (ce.own _ _ (by kernel_rfl) (by decide)) ce.k) (fun i hi env' C s ce x t F' => test_nil) (fun i hi _ env' C s ce x t F' => ?_)
    · intro y hy hfree
      simp only [List.mem_cons, List.not_mem_nil, or_false] at hy
      rcases hy with rfl | rfl | rfl <;> exact absurd hfree (by decide)
    · rw [pInts_len] at hi
      rw [nth_pInts _ _ hi] at F'
      exact EvP.imm (ev_bin (ev_call (nm_builtin (ce.ge (K.ge X) x) (ce.own _ _ (by kernel_rfl) (by decide)) (b_int w.params) (by kernel_rfl)) (keeps_val fun a => by simp) (args_cons (F'.ev (by rfl) ce.k (ce.own _ _ (by kernel_rfl) (by decide)) (by kernel_rfl)) args_nil) (by simp) cl_int) (ev_bin ev_int ev_int (op_pow_int (by decide) (by decide))) (op_mod_int (by decide))) trivial) F.tk (.inr ⟨K.c_cells, K.s_cells⟩) K.F (fun s1 F1 k1 => ?_) (swaps_false K.c_cells)
  have X1 := k1.ext hzM X
  have cvc := F1.cv (x := "cells") (by rfl) K.c_cells
  have lf : (pInts firsts).length = 4 := rfl
  refine sc_comp (T := 1) (n := (pInts firsts).length) (D := fun i => .tup [.int i, nth (pInts firsts) i]) (R := fun i => .int (nmK (csL sc) i)) (keep := fun _ => true) (ρt := fun i => [("first", nth (pInts firsts) i), ("k", .int (i : Int))]) F1 K.l_numbers K.F
      ?_ (by decide +kernel) rfl (by decide +kernel) (Nat.le_refl 1) (itp_enum_tuple O.handled (nm_builtin (K.ge X1) K.g_enumerate (b_enum w.params) (by kernel_rfl)) (const_tup (l := firsts) (by kernel_rfl) (by decide)).ev) (by rw [lf]; omega) F1.tk
      (fun i hi env' C ce => asp_tup2 O.handled (ce.own _ _ (by kernel_rfl) (by decide)) (ce.own _ _ (by kernel_rfl) (by decide)) ce.k) (fun i hi env' C s ce x t F' => test_nil) (fun i hi _ env' C s ce x t F' => ?_) (fun s2 F2 k2 => ?_) (swaps_true K.F K.l_numbers (by kernel_rfl) (by kernel_rfl))
  · intro y hy hfree
    simp only [List.mem_cons, List.not_mem_nil, or_false] at hy
    rcases hy with rfl | rfl | rfl | rfl | rfl <;> first | exact absurd hfree (by decide) | exact K.s_cells
  · rw [lf] at hi
    rw [nth_pInts _ _ (by exact hi)] at F'
    have el : pick (pInts (csL sc)) (some (i : Int)) none (some 4) = pInts (pick (csL sc) (some (i : Int)) none (some 4)) := pick_map _ _ _ _ _
    have cl := cs_len sc
    exact EvP.imm (ev_bin (F'.ev (by rfl) ce.k (ce.own _ _ (by kernel_rfl) (by decide)) (by kernel_rfl)) (ev_call (nm_builtin (ce.ge (K.ge X1) x) (ce.own _ _ (by kernel_rfl) (by decide)) (b_sum w.params) (by kernel_rfl)) (keeps_val fun a => by simp)
      (args_cons (el ▸ (ev_slice_step (by decide) (imm_ints _) (cvc.ev ce x (by kernel_rfl) (by kernel_rfl) (by kernel_rfl)) (part_some (F'.ev (by rfl) ce.k (ce.own _ _ (by kernel_rfl) (by decide)) (by kernel_rfl))) part_none ev_int (by rw [pInts_len, sizeLine_eq]; omega)).ev) args_nil) (by simp) (cl_sum O.handled (fun x hx => cs_bound sc x (pick_mem hx)) (pick4_len _ _ cl))) op_add_int) trivial
  · have e2 : (((List.range (pInts firsts).length).filter fun _ => true).map fun i => PV.int (nmK (csL sc) i)) = pInts ((List.range 4).map (nmK (csL sc))) := by
      rw [filt_true, lf]; simp [pInts]
    rw [e2] at F2
    exact sq_eq (ss' := List.drop 2 (bodyOf 23)) (by rfl) (hq s2 (B.km (k1.trans k2)) (k2.ext hzM X1) (F2.sub ⟨by rfl, trivial⟩))
end T55

end
section
open PySem PySem.W PyProof.Rows PySem.Calls
namespace T55
set_option maxRecDepth 100000
set_option linter.unusedVariables false
variable {w : World} {A : Around} {env : Env} {h₁ : Heap} {s : Shared} {M : List Addr} {ρ : List (Str × PV)} {E : Value → Shared → Prop} {Q : Flow → Shared → Prop}
noncomputable def digs (n : Int) : List Int := (List.range 5).map fun p => Int.fmod (Int.fdiv n (4 ^ p)) 4
theorem digs_len (n : Int) : (digs n).length = 5 := by simp [digs]
theorem digs_bound (n : Int) : ∀ x ∈ digs n, 0 ≤ x ∧ x < 4 := fun x hx => by
  obtain ⟨p, _, rfl⟩ := List.mem_map.mp hx
  exact ⟨Int.fmod_nonneg_of_pos _ (by decide), Int.fmod_lt_of_pos _ (by decide)⟩
theorem pow4 : ∀ p : Nat, p < 5 → (4 : Int) ^ p ≠ 0 ∧ ((4 : Int) ^ p).natAbs < 2 ^ 30 ∧ ((Builtin.Int.intBits 4 : Nat) : Int) * (p : Int) ≤ 2 ^ 27 := by decide
theorem hds_bound (t : Int) (h0 : 0 ≤ t) (h9 : t < 9) : (hds t).length = 4 ∧ ∀ x ∈ hds t, 0 ≤ x ∧ x ≤ 200000 := by
  have : t = 0 ∨ t = 1 ∨ t = 2 ∨ t = 3 ∨ t = 4 ∨ t = 5 ∨ t = 6 ∨ t = 7 ∨ t = 8 := by omega
  rcases this with rfl | rfl | rfl | rfl | rfl | rfl | rfl | rfl | rfl <;> exact ⟨by decide, by decide⟩
theorem law2 {n0 n1 n2 n3 : Int} {s0 : Shared} (B : Bs M s0 s) (K : KLw env M) (X : Ext (HZ w.params) s.heap) (hzM : ∀ b ∈ M, (HZ w.params).get? b = none) (O : Ok A 2) (F : FC env M [("numbers", .list (pInts [n0, n1, n2, n3]))] s)
    (hq : ∀ s', Bs M s0 s' → Ext (HZ w.params) s'.heap → FC env M [("heads", .tup (pInts (hds (Int.fmod (Int.fdiv n3 22) 9)))), ("low", .int (Int.fmod n3 22)), ("numbers", .list (pInts [n0, n1, n2, n3]))] s' → Sq w A env (List.drop 5 (bodyOf 23)) Q E s') : Sq w A env (List.drop 2 (bodyOf 23)) Q E s := by
  conv in (List.drop 2 (bodyOf 23)) => whnf
  have en : ∀ {ρ : List (Str × PV)} {s : Shared} {p : Pos}, ρ.lookup ("numbers" : Str) = some (PV.list (pInts [n0, n1, n2, n3])) → FC env M ρ s → EvP w A env s.heap (.Name "numbers" p) (.list (pInts [n0, n1, n2, n3])) := fun h F => F.ev h K.F (.inl K.l_numbers) (by kernel_rfl)
  have b0 := Int.fmod_nonneg_of_pos (Int.fdiv n3 22) (show (0 : Int) < 9 by decide)
  have b1 := Int.fmod_lt_of_pos (Int.fdiv n3 22) (show (0 : Int) < 9 by decide)
  refine sc_tup2 (d1 := .int (Int.fmod n3 22)) (d2 := .int (Int.fmod (Int.fdiv n3 22) 9)) O.handled F
    (ev_bin (ev_item_list (d := .int n3) (en (by rfl) F) ev_int (by decide) (by decide) rfl) ev_int (op_mod_int (by decide)))
    (ev_bin (ev_bin (ev_item_list (d := .int n3) (en (by rfl) F) ev_int (by decide) (by decide) rfl) ev_int (op_div_int (by decide) (no_pylong (by decide)))) ev_int (op_mod_int (by decide))) trivial trivial
    (.inr ⟨K.c_low, K.s_low⟩) (.inl K.l_turn) K.F (fun s1 F1 k1 => ?_) (by kernel_rfl) (by obtain ⟨P, L, e⟩ := K.eq; rw [e]; kernel_rfl)
  generalize ht : Int.fmod (Int.fdiv n3 22) 9 = t at *
  refine sc_assign (d := .tup (pInts alph)) (T := 1) F1 (const_tup (l := alph) (by kernel_rfl) (by decide)) F1.tk (.inl K.l_alphabets) K.F (fun s2 F2 k2 => ?_) (by kernel_rfl)
  have eal : ∀ {p : Pos}, EvP w A env s2.heap (.Name "alphabets" p) (.tup (pInts alph)) := F2.ev (by rfl) K.F (.inl K.l_alphabets) (by kernel_rfl)
  have etu : ∀ {p : Pos}, EvP w A env s2.heap (.Name "turn" p) (.int t) := F2.ev (by rfl) K.F (.inl K.l_turn) (by kernel_rfl)
  have al : alph.length = 10 := rfl
  refine sc_assign (d := .tup (pInts (hds t))) (T := 1) F2 (ev_tupleF (args_cons (d := .int 97) ev_int (args_cons (d := .int 65) ev_int (args_cons (d := .int (alph.getD t.toNat 0)) (ev_item_tup eal etu b0 (by omega) (pInts_get _ _ (by omega)))
    (args_cons (d := .int (alph.getD (t + 1).toNat 0)) (ev_item_tup eal (ev_bin etu ev_int op_add_int) (by omega) (by omega) (pInts_get _ _ (by omega))) args_nil)))) (imm_ints _) (by rw [sizeLine_eq]; show 4 ≤ 16777216; decide)) F2.tk (.inr ⟨K.c_heads, K.s_heads⟩) K.F (fun s3 F3 k3 => ?_) (by kernel_rfl)
  exact sq_eq (ss' := List.drop 5 (bodyOf 23)) (by rfl) (hq s3 (B.km (k1.trans (k2.trans k3))) ((k1.trans (k2.trans k3)).ext hzM X) (F3.sub ⟨by rfl, by rfl, by rfl, trivial⟩))
end T55

end
section
open PySem PySem.W PyProof.Rows PySem.Calls
namespace T55
set_option maxRecDepth 100000
set_option linter.unusedVariables false
variable {w : World} {A : Around} {env : Env} {h₁ : Heap} {s : Shared} {M : List Addr} {ρ : List (Str × PV)} {E : Value → Shared → Prop} {Q : Flow → Shared → Prop}
theorem KM.nw {M : List Addr} {s s' : Shared} (k : KM M s s') {b : Addr} (n : Nw s'.heap b) : Nw s.heap b := by
  cases e : s.heap.get? b with
  | none => exact e
  | some o =>
    have := k.is (b := b) (by rw [e]; rfl)
    rw [show s'.heap.get? b = none from n] at this; cases this
noncomputable def tyL (n : Int) (t lo : Int) : List Nat := typ (digs n) (hds t) lo (Int.fdiv n 1024)
set_option maxHeartbeats 1000000 in
theorem law3 {n0 n1 n2 n3 t lo : Int} {s0 : Shared} (B : Bs M s0 s) (hn : 0 ≤ n0 ∧ 0 ≤ n1 ∧ 0 ≤ n2) (ht : 0 ≤ t ∧ t < 9) (hlo : 0 ≤ lo ∧ lo ≤ 1000) (K : KLw env M) (X : Ext (HZ w.params) s.heap) (hzM : ∀ b ∈ M, (HZ w.params).get? b = none) (O : Ok A 2)
    (F : FC env M [("heads", .tup (pInts (hds t))), ("low", .int lo), ("numbers", .list (pInts [n0, n1, n2, n3]))] s)
    (hq : ∀ s', Bs M s0 s' → Ext (HZ w.params) s'.heap → FC env M [("typed", .list (txs [tyL n0 t lo, tyL n1 t lo, tyL n2 t lo])), ("rows", .list (rowsPV [digs n0, digs n1, digs n2])), ("low", .int lo), ("numbers", .list (pInts [n0, n1, n2, n3]))] s' → Sq w A env (List.drop 7 (bodyOf 23)) Q E s') : Sq w A env (List.drop 5 (bodyOf 23)) Q E s := by
  conv in (List.drop 5 (bodyOf 23)) => whnf
  have en : ∀ {ρ : List (Str × PV)} {s : Shared} {p : Pos}, ρ.lookup ("numbers" : Str) = some (PV.list (pInts [n0, n1, n2, n3])) → FC env M ρ s → EvP w A env s.heap (.Name "numbers" p) (.list (pInts [n0, n1, n2, n3])) := fun h F => F.ev h K.F (.inl K.l_numbers) (by kernel_rfl)
  have e3 : pick (pInts [n0, n1, n2, n3]) none (some (3 : Int)) none = pInts [n0, n1, n2] := by
    rw [show (3 : Int) = ((3 : Nat) : Int) from rfl, pick_to]; rfl
  have l3 : (pInts [n0, n1, n2]).length = 3 := rfl
  have hnn : ∀ i, i < 3 → 0 ≤ [n0, n1, n2].getD i 0 := fun i hi => by
    have : i = 0 ∨ i = 1 ∨ i = 2 := by omega
    rcases this with rfl | rfl | rfl
    · exact hn.1
    · exact hn.2.1
    · exact hn.2.2
  refine sc_compG (T := 1) (n := (pInts [n0, n1, n2]).length) (D := nth (pInts [n0, n1, n2])) (R := fun i => .list (pInts (digs ([n0, n1, n2].getD i 0)))) (keep := fun _ => true) F K.l_rows K.F
    (blk2 rfl (by decide +kernel) (fun n x hx => ?_)) (by rfl) rfl (by decide +kernel) (Nat.le_refl 1) (itp_list O.handled noGo_name (e3 ▸ ev_slice_list (en (by rfl) F) part_none (part_some ev_int) (by rw [pInts_len, sizeLine_eq]; show 4 ≤ 16777216; decide))) (by rw [l3]; omega) F.tk
    (fun i hi e Mc s1 E1 v hMc J x t1 rv => ?_) (fun s2 F2 k2 => ?_) (swaps_true K.F K.l_rows (by kernel_rfl) (by kernel_rfl))
  · have hm := mem_of_lookup hx
    simp only [List.mem_cons, List.not_mem_nil, or_false, Prod.mk.injEq] at hm
    rcases hm with ⟨_, h⟩ | ⟨rfl, _⟩ | ⟨_, h⟩
    · cases h
    · rfl
    · cases h
  · obtain ⟨Fe, ce, kle⟩ := J
    rw [l3] at hi
    rw [nth_pInts _ _ (by exact hi)] at rv
    have hni := hnn i hi
    generalize [n0, n1, n2].getD i 0 = n at *
    have klw := kle "number" (by kernel_rfl)
    refine as_nameC Fe rv klw ce.k fun s2 F2 k2 => ?_
    have Ge := ce.ge (K.ge X) (k2.ext (fun b hb => hMc b hb) x)
    have knum : e.kindOf "number" = some .cell := ce.own _ _ (by kernel_rfl) (by decide)
    have cvn := F2.cv (x := "number") (by rfl) knum
    have scn : (e.cells.lookup ("number" : Str)).isSome = true := by obtain ⟨c, v, hc, _⟩ := cvn; rw [hc]; rfl
    rw [testsOf_nil]
    refine wpAny_pure ⟨rfl, fun h => (by cases h), fun _ => ?_⟩
    have e5 : (((List.range 5).filter fun _ => true).map fun p => PV.int (Int.fmod (Int.fdiv n (4 ^ p)) 4)) = pInts (digs n) := by
      rw [filt_true]; simp [pInts, digs]
    rw [← e5]
    refine wp_use (EvT.run (T := 1) (d := .list (((List.range 5).filter fun _ => true).map fun p => PV.int (Int.fmod (Int.fdiv n (4 ^ p)) 4))) (ev_list1 (w := w) (A := A) (env := e) (h₁ := s2.heap) (T := 1) (n := 5) (D := fun i => .int (i : Int)) (R := fun p => .int (Int.fmod (Int.fdiv n (4 ^ p)) 4)) (keep := fun _ => true) (ρt := fun i => [("place", .int (i : Int))])
      ?_ (by decide +kernel) rfl (by decide +kernel) (Nat.le_refl 1) (itp_range O.handled noGo_name (by omega) (fun s E k t => ev_range Ge (ce.own _ _ (by kernel_rfl) (by decide)) ev_int (by intro _; rfl) s E k t)) (by omega)
      (fun i hi env' C ce => asp_name (ce.own _ _ (by kernel_rfl) (by decide)) ce.k) (fun i hi env' C s ce x t F' => test_nil) (fun p hp _ env' C s' ce' x' t' F' => ?_)) s2 E1 (Ext.refl _) F2.tk) fun y s4 ry k4 => ⟨ry.imp (fun b hb => k2.nw hb) fun _ _ _ q => q, k2.trans (KM.of_kp k4), (F2.kp k4).sub trivial, ce, kle⟩
    · intro y hy hfree
      simp only [List.mem_cons, List.not_mem_nil, or_false] at hy
      rcases hy with rfl | rfl | rfl <;> first | exact absurd hfree (by decide) | exact scn
    · obtain ⟨p1, p2, p3⟩ := pow4 p hp
      have ep : (4 : Int) ^ p = 4 ^ ((p : Int)).toNat := by rw [show ((p : Int)).toNat = p by omega]
      rw [ep] at p1 p2 ⊢
      exact EvP.imm (ev_bin (ev_bin (cvn.ev ce' x' (by kernel_rfl) (by kernel_rfl) (by kernel_rfl)) (ev_bin ev_int (F'.ev (by rfl) ce'.k (ce'.own _ _ (by kernel_rfl) (by decide)) (by kernel_rfl)) (op_pow_int (by omega) p3)) (op_div_int p1 (no_pylong p2))) ev_int (op_mod_int (by decide))) trivial
  · have er : (((List.range (pInts [n0, n1, n2]).length).filter fun _ => true).map fun i => PV.list (pInts (digs ([n0, n1, n2].getD i 0)))) = rowsPV [digs n0, digs n1, digs n2] := rfl
    rw [er] at F2
    have X2 := k2.ext hzM X
    have cvh := F2.cv (x := "heads") (by rfl) K.c_heads
    have cvl := F2.cv (x := "low") (by rfl) K.c_low
    have lr : (rowsPV [digs n0, digs n1, digs n2]).length = 3 := rfl
    have nthr : ∀ i, i < 3 → nth (rowsPV [digs n0, digs n1, digs n2]) i = .list (pInts (digs ([n0, n1, n2].getD i 0))) := fun i hi => by
      have : i = 0 ∨ i = 1 ∨ i = 2 := by omega
      rcases this with rfl | rfl | rfl <;> rfl
    have nthn : ∀ i, i < 3 → nth (pInts [n0, n1, n2, n3]) i = .int ([n0, n1, n2].getD i 0) := fun i hi => by
      have : i = 0 ∨ i = 1 ∨ i = 2 := by omega
      rcases this with rfl | rfl | rfl <;> rfl
    obtain ⟨hd4, hdb⟩ := hds_bound t ht.1 ht.2
    refine sc_comp (T := 1) (n := 3) (D := fun i => .tup [nth (rowsPV [digs n0, digs n1, digs n2]) i, nth (pInts [n0, n1, n2, n3]) i]) (R := fun i => .str (tx (tyL ([n0, n1, n2].getD i 0) t lo))) (keep := fun _ => true)
      (ρt := fun i => [("number", nth (pInts [n0, n1, n2, n3]) i), ("row", nth (rowsPV [digs n0, digs n1, digs n2]) i)]) F2 K.l_typed K.F
      ?_ (by decide +kernel) rfl (by decide +kernel) (Nat.le_refl 1) (itp_zip O.handled (nm_builtin (K.ge X2) K.g_zip (b_zip w.params) (by kernel_rfl)) (F2.ev (by rfl) K.F (.inl K.l_rows) (by kernel_rfl)) (en (by rfl) F2) lr (by show 3 ≤ 4; decide)) (by omega) F2.tk
      (fun i hi env' C ce => asp_tup2 O.handled (ce.own _ _ (by kernel_rfl) (by decide)) (ce.own _ _ (by kernel_rfl) (by decide)) ce.k) (fun i hi env' C s ce x t F' => test_nil) (fun i hi _ env' C s' ce x t' F' => ?_) (fun s3 F3 k3 => ?_) (swaps_true K.F K.l_typed (by kernel_rfl) (by kernel_rfl))
    · intro y hy hfree
      simp only [List.mem_cons, List.not_mem_nil, or_false] at hy
      rcases hy with rfl | rfl | rfl | rfl | rfl | rfl <;> first | exact absurd hfree (by decide) | exact K.s_heads | exact K.s_low
    · rw [nthr i hi, nthn i hi] at F'
      have hni := hnn i hi
      have Xs := X2.trans x
      refine EvP.imm (ev_call (nm_global (ce.ge (K.ge X2) x) (ce.own _ _ (by kernel_rfl) (by decide)) (g_typed w.params) (by kernel_rfl)) ((fn_typed w.params).keeps Xs)
        (args_cons (F'.ev (by rfl) ce.k (ce.own _ _ (by kernel_rfl) (by decide)) (by kernel_rfl)) (args_cons (cvh.ev ce x (by kernel_rfl) (by kernel_rfl) (by kernel_rfl)) (args_cons (cvl.ev ce x (by kernel_rfl) (by kernel_rfl) (by kernel_rfl))
          (args_cons (ev_bin (F'.ev (by rfl) ce.k (ce.own _ _ (by kernel_rfl) (by decide)) (by kernel_rfl)) ev_int (op_div_int (by decide) (no_pylong (by decide)))) args_nil)))) (by simp)
        (cl_typed (digs_len _) (digs_bound _) hd4 hdb hlo ?_ Xs O)) trivial
      rw [Int.fdiv_eq_ediv_of_nonneg _ (by decide)]
      exact Int.ediv_nonneg hni (by decide)
    · have et : (((List.range 3).filter fun _ => true).map fun i => PV.str (tx (tyL ([n0, n1, n2].getD i 0) t lo))) = txs [tyL n0 t lo, tyL n1 t lo, tyL n2 t lo] := rfl
      rw [et] at F3
      exact sq_eq (ss' := List.drop 7 (bodyOf 23)) (by rfl) (hq s3 (B.km (k2.trans k3)) (k3.ext hzM X2) (F3.sub ⟨by rfl, by rfl, by rfl, by rfl, trivial⟩))
end T55

end
section
open PySem PySem.W PyProof.Rows PySem.Calls
namespace T55
set_option maxRecDepth 100000
set_option linter.unusedVariables false
variable {w : World} {A : Around} {env : Env} {h₁ : Heap} {s : Shared} {M : List Addr} {ρ : List (Str × PV)} {E : Value → Shared → Prop} {Q : Flow → Shared → Prop}
theorem pcs_three (a b c : List Nat) : pcs [a.length, b.length, c.length] (a ++ b ++ c) 3 = [a, b, c] := by
  show [((a ++ b ++ c).drop 0).take a.length, ((a ++ b ++ c).drop (a.length + 0)).take b.length, ((a ++ b ++ c).drop (a.length + (b.length + 0))).take c.length] = _
  have h : List.drop (a.length + b.length) a = [] := List.drop_eq_nil_of_le (by omega)
  simp [List.append_assoc, List.drop_append, h]
theorem ts_bool {e : Expr} {b : Bool} (h : EvP w A env h₁ e (.bool b)) (he : ∀ whole : Sem Value, PySem.isTrue e env whole = (do let v ← whole; standAt e.pos; holding [v] (truthy v)) := by intro _; rfl) : TsP w A env h₁ e b := .mk fun s E k t =>
  wpAny_isTrue_value (h.use k t fun v s' r q => by
    simp only [Rep] at r
    subst r
    exact wpAny_truthy_bool ⟨rfl, q⟩) (he _)
theorem range_filter_map {α β : Type} (z : α) (l : List α) (p : α → Bool) (f : α → β) : ((List.range l.length).filter fun j => p (l.getD j z)).map (fun j => f (l.getD j z)) = (l.filter p).map f := by
  have e : l = (List.range l.length).map fun j => l.getD j z := by
    refine List.ext_getElem? fun i => ?_
    by_cases hi : i < l.length
    · simp [hi, List.getD_eq_getElem?_getD]
    · simp [hi]
  conv => rhs; rw [e]
  rw [List.filter_map, List.map_map]
  rfl
noncomputable def nb (c : Nat) : Bool := !(b1L.contains (c : Int))
noncomputable def mapcL (c : Nat) : List Nat := (mapc c).cps.toList
/-- x = a call that may leave a generator behind -/
theorem sc_call {x : Str} {p pos : Pos} {e : Expr} {rest : List Stmt} {d : PV} (hM : ∀ b ∈ M, b = env.locals ∨ ∃ x, env.cells.lookup x = some b) (F : FC env M ρ s) (h : ∀ E, wpAny (model PW w) A (eval e env) (fun v s' => Rep s'.heap d v ∧ KH [] s s' ∧ (AllBare s.gens → AllBare s'.gens)) E s) (hl : Kl env x) (hk : env.scope.kind = .function)
    (hq : ∀ s', FC env M ((x, d) :: ρ) s' → Bs M s s' → Sq w A env rest Q E s')
    (hs : swapsWith e (some (.Name x p)) pos.line env = pure false := by rfl) :
    Sq w A env (.Assign [.Name x p] e pos :: rest) Q E s := by
  refine .mk (wpAny_execs_cons (wpAny_Assign_Name (wpAny_mono (h E) (fun v s' z => ?_) fun _ _ e => e) hs))
  obtain ⟨r, q, hb⟩ := z
  have F1 := F.kh q
  exact F1.set (F1.fit hM r) hk hl fun s'' F' k' => (hq s'' F' (Bs.km ⟨q.mono (by simp), hb⟩ k')).run
theorem txs_nth (l : List (List Nat)) (i : Nat) (h : i < l.length) : nth (txs l) i = .str (tx (l.getD i [])) := by
  simp [nth, txs, List.getD_eq_getElem?_getD, h]
theorem imm_txs (l : List (List Nat)) : ImmL (txs l) := fun d hd => by
  obtain ⟨a, _, rfl⟩ := List.mem_map.mp hd
  trivial
theorem tx_size (l : List Nat) : (tx l).cps.size = l.length := by simp [tx]
theorem sgn_tx (l : List Nat) (j : Nat) (h : j < l.length) : sgn (tx l) j = .str (tx [l.getD j 0]) := by
  unfold sgn
  congr 2
  simp [tx, List.getD_eq_getElem?_getD, Array.getD, h]
theorem law4 {T0 T1 T2 : List Nat} {s0 : Shared} (B : Bs M s0 s) (h0 : 1 ≤ T0.length ∧ T0.length ≤ 40) (h1 : 1 ≤ T1.length ∧ T1.length ≤ 40) (h2 : 1 ≤ T2.length ∧ T2.length ≤ 40) (K : KLw env M) (X : Ext (HZ w.params) s.heap) (hzM : ∀ b ∈ M, (HZ w.params).get? b = none) (O : Ok A 2)
    (F : FC env M (("typed", .list (txs [T0, T1, T2])) :: ρ) s)
    (hq : ∀ s', Bs M s0 s' → Ext (HZ w.params) s'.heap → FC env M (("pieces", .list (txs [T0, T1, T2])) :: ("line", .str (tx (T0 ++ T1 ++ T2))) :: ("typed", .list (txs [T0, T1, T2])) :: ρ) s' → Sq w A env (List.drop 9 (bodyOf 23)) Q E s') : Sq w A env (List.drop 7 (bodyOf 23)) Q E s := by
  conv in (List.drop 7 (bodyOf 23)) => whnf
  have et : ∀ {s : Shared} {p : Pos} {ρ : List (Str × PV)}, ρ.lookup ("typed" : Str) = some (.list (txs [T0, T1, T2])) → FC env M ρ s → EvP w A env s.heap (.Name "typed" p) (.list (txs [T0, T1, T2])) := fun h F => F.ev h K.F (.inl K.l_typed) (by kernel_rfl)
  have ga := K.ge X
  refine sc_assign (d := .str (tx (T0 ++ T1 ++ T2))) (T := 1) F (EvP.imm (by
    rw [← tx_append, ← tx_append]
    refine ev_call (nm_global ga K.g_add (g_add w.params) (by kernel_rfl)) ((fn_add w.params).keeps X) (args_cons (ev_call (nm_global ga K.g_add (g_add w.params) (by kernel_rfl)) ((fn_add w.params).keeps X) (args_cons (ev_item_list (d := .str (tx T0)) (et (by rfl) F) ev_int (by decide) (by decide) rfl) (args_cons (ev_item_list (d := .str (tx T1)) (et (by rfl) F) ev_int (by decide) (by decide) rfl) args_nil)) (by simp) (cl_add_str ?_ X (O.mono (by omega)))) (args_cons (ev_item_list (d := .str (tx T2)) (et (by rfl) F) ev_int (by decide) (by decide) rfl) args_nil)) (by simp) (cl_add_str ?_ X (O.mono (by omega)))
    · rw [tx_len, tx_len, sizeLine_eq]; omega
    · rw [tx_append, tx_len, tx_len, List.length_append, sizeLine_eq]; omega) trivial) F.tk (.inl K.l_line) K.F (fun s1 F1 k1 => ?_)
  have X1 := k1.ext hzM X
  have es : pInts [(T0.length : Int), T1.length, T2.length] ++ pInts [127, 5] = pInts (szs [T0.length, T1.length, T2.length]) := rfl
  have el : (((List.range (txs [T0, T1, T2]).length).filter fun _ => true).map fun i => PV.int ((([T0, T1, T2].getD i []).length : Nat) : Int)) = pInts [(T0.length : Int), T1.length, T2.length] := rfl
  have hlen : ∀ i, i < 3 → ([T0, T1, T2].getD i []).length ≤ 40 := fun i hi => by
    have : i = 0 ∨ i = 1 ∨ i = 2 := by omega
    rcases this with rfl | rfl | rfl
    · exact h0.2
    · exact h1.2
    · exact h2.2
  refine sc_call (d := .list (txs [T0, T1, T2])) K.hM F1 (fun E' => ev_callG (ds := [.str (tx (T0 ++ T1 ++ T2)), .list (pInts (szs [T0.length, T1.length, T2.length]))]) (nm_global (K.ge X1) K.g_law_cut (g_cut w.params) (by kernel_rfl)) ((fn_cut w.params).keeps X1)
    (args_cons (F1.ev (by rfl) K.F (.inl K.l_line) (by kernel_rfl)) (args_cons (by
      rw [← es, ← el]
      exact ev_bin (EvF.ev (ev_list1 (T := 1) (D := nth (txs [T0, T1, T2])) (R := fun i => .int ((([T0, T1, T2].getD i []).length : Nat) : Int)) (keep := fun _ => true) (ρt := fun i => [("text", nth (txs [T0, T1, T2]) i)])
        (by
          intro y hy hfree
          simp only [List.mem_cons, List.not_mem_nil, or_false] at hy
          rcases hy with rfl | rfl | rfl <;> exact absurd hfree (by decide)) (by decide +kernel) rfl (by decide +kernel) (Nat.le_refl 1) (itp_list O.handled noGo_name (et (by rfl) F1)) (by show 3 ≤ 1000; decide)
        (fun i hi env' C ce => asp_name (ce.own _ _ (by kernel_rfl) (by decide)) ce.k) (fun i hi env' C s ce x t F' => test_nil) (fun i hi _ env' C s ce x t F' => by
          replace hi : i < 3 := hi
          rw [txs_nth _ _ (by exact hi)] at F'
          have hli := hlen i hi
          generalize [T0, T1, T2].getD i [] = T at F' hli
          exact EvP.imm (ev_lenS (ce.ge (K.ge X1) x) (ce.own _ _ (by kernel_rfl) (by decide)) (F'.ev (by rfl) ce.k (ce.own _ _ (by kernel_rfl) (by decide)) (by kernel_rfl)) (by omega)) trivial)))
        (EvF.ev (ev_listF (args_cons (d := .int 127) ev_int (args_cons (d := .int 5) ev_int args_nil)) (imm_ints [127, 5]) (by rw [sizeLine_eq]; show 2 ≤ 16777216; decide))) (op_add_list (l := pInts [(T0.length : Int), T1.length, T2.length]) (l' := pInts [127, 5]) (imm_ints _) (imm_ints _) (by rw [sizeLine_eq]; show 3 + 2 ≤ 16777216; decide)).op) args_nil)) (by simp) (Ext.refl _) F1.tk
    (fun s₁ vs k r => ?_)) (.inl K.l_pieces) K.F (fun s2 F2 k2 => ?_)
  · have := cl_cut (w := w) (A := A) (s := s₁) (E := E') (ns := [T0.length, T1.length, T2.length]) (line := T0 ++ T1 ++ T2) (vs := vs) (fun n hn => by
      simp only [List.mem_cons, List.not_mem_nil, or_false] at hn
      rcases hn with rfl | rfl | rfl <;> omega) (by simp only [List.length_append, List.sum_cons, List.sum_nil]; omega) (by simp only [List.length_append]; omega) (by show 3 ≤ 100; decide) (X1.trans k.ext) O (Nat.le_trans F1.tk k.toks) r
    rw [show [T0.length, T1.length, T2.length].length = 3 from rfl, pcs_three] at this
    exact wpAny_mono this (fun v s' z => ⟨z.1, (KH.of_kp k).trans z.2.1, fun hb => z.2.2 (by obtain ⟨_, _, rfl, _⟩ := k; exact hb)⟩) fun _ _ e => e
  · exact sq_eq (ss' := List.drop 9 (bodyOf 23)) (by rfl) (hq s2 ((B.km k1).trans k2) (k2.1.ext hzM X1) F2)
end T55

end
section
open PySem PySem.W PyProof.Rows PySem.Calls
namespace T55
set_option maxRecDepth 100000
set_option linter.unusedVariables false
variable {w : World} {A : Around} {env : Env} {h₁ : Heap} {s : Shared} {M : List Addr} {ρ : List (Str × PV)} {E : Value → Shared → Prop} {Q : Flow → Shared → Prop}
noncomputable def wordL (lo : Int) : List Nat := (List.range 5).map fun p : Nat => (97 + lo + (p : Int)).toNat
theorem three {α : Type} {P : α → Prop} {a b c : α} (z : α) (h0 : P a) (h1 : P b) (h2 : P c) : ∀ i, i < 3 → P ([a, b, c].getD i z) := fun i hi => by
  have : i = 0 ∨ i = 1 ∨ i = 2 := by omega
  rcases this with rfl | rfl | rfl
  · exact h0
  · exact h1
  · exact h2
theorem ev_joinF {k0 : Nat} {p0 apos pos : Pos} {e : Expr} {l : List (List Nat)} {W : List Nat} (hW : l.flatten = W) (h : EvP w A env h₁ e (.list (strs' (l.map tx)))) (hz : W.length ≤ 1000000)
    (hline : (apos.endLine == pos.line) = true) (hs : starEach [e] env = [(false, eval e env)] := by rfl) :
    EvP w A env h₁ (.Call (.Attribute (.Constant (.str (Str.ofString "")) k0 p0) "join" apos) [e] [] pos) (.str (tx W)) := by
  subst hW
  have := ev_join (w := w) (A := A) (k0 := k0) (p0 := p0) (apos := apos) (pos := pos) (sep := Str.ofString "") (l := l.map tx) h (join_ok _ hz) hline hs
  rwa [join_tx] at this
set_option maxHeartbeats 1000000 in
theorem law5 {T0 T1 T2 N0 N1 N2 W : List Nat} {s0 : Shared} (B : Bs M s0 s) (hT : ∀ T ∈ [T0, T1, T2], T.length ≤ 100) (hN0 : T0.filter nb = N0) (hN1 : T1.filter nb = N1) (hN2 : T2.filter nb = N2)
    (hP : ∀ N ∈ [N0, N1, N2], (N.map mapcL).flatten = W) (hW : W.length ≤ 100) (hlow : ∀ N ∈ [N0, N1, N2], ∀ c ∈ N, (Txt.lower (tx [c])).length ≤ 1000) (K : KLw env M) (X : Ext (HZ w.params) s.heap) (hzM : ∀ b ∈ M, (HZ w.params).get? b = none) (O : Ok A 2)
    (F : FC env M (("pieces", .list (txs [T0, T1, T2])) :: ρ) s)
    (hq : ∀ s', Bs M s0 s' → Ext (HZ w.params) s'.heap → FC env M (("plain", .list (txs [W, W, W])) :: ("names", .list (txs [N0, N1, N2])) :: ("pieces", .list (txs [T0, T1, T2])) :: ρ) s' → Sq w A env (List.drop 11 (bodyOf 23)) Q E s') : Sq w A env (List.drop 9 (bodyOf 23)) Q E s := by
  conv in (List.drop 9 (bodyOf 23)) => whnf
  have lT : (txs [T0, T1, T2]).length = 3 := rfl
  have lN : (txs [N0, N1, N2]).length = 3 := rfl
  have eN : ∀ i, i < 3 → ([T0, T1, T2].getD i []).filter nb = [N0, N1, N2].getD i [] := fun i hi => by
    have : i = 0 ∨ i = 1 ∨ i = 2 := by omega
    rcases this with rfl | rfl | rfl
    · exact hN0
    · exact hN1
    · exact hN2
  refine sc_comp (T := 1) (n := (txs [T0, T1, T2]).length) (D := nth (txs [T0, T1, T2])) (R := fun i => .str (tx ([N0, N1, N2].getD i []))) (keep := fun _ => true) (ρt := fun i => [("piece", nth (txs [T0, T1, T2]) i)]) F K.l_names K.F
      ?_ (by decide +kernel) rfl (by decide +kernel) (Nat.le_refl 1) (itp_list O.handled noGo_name (F.ev (by rfl) K.F (.inl K.l_pieces) (by kernel_rfl))) (by rw [lT]; omega) F.tk
      (fun i hi env' C ce => asp_name (ce.own _ _ (by kernel_rfl) (by decide)) ce.k) (fun i hi env' C s ce x t F' => test_nil) (fun i hi _ env' C s' ce x t' F' => ?_) (fun s1 F1 k1 => ?_) (swaps_true K.F K.l_names (by kernel_rfl) (by kernel_rfl))
  · intro y hy hfree
    simp only [List.mem_cons, List.not_mem_nil, or_false] at hy
    rcases hy with rfl | rfl <;> exact absurd hfree (by decide)
  · replace hi : i < 3 := hi
    rw [txs_nth _ _ (by exact hi)] at F'
    have hTi := three (a := T0) (b := T1) (c := T2) (P := fun T : List Nat => T.length ≤ 100) [] (hT T0 (by simp)) (hT T1 (by simp)) (hT T2 (by simp)) i hi
    rw [← eN i hi]
    generalize [T0, T1, T2].getD i [] = T at F' hTi
    have Xs := X.trans x
    have Gs := ce.ge (K.ge X) x
    have e : (((List.range (tx T).cps.size).filter fun j => nb (T.getD j 0)).map (fun j => PV.str (tx [T.getD j 0]))) = txs ((T.filter nb).map fun c => [c]) := by
      rw [tx_size, range_filter_map 0 T nb (fun c => PV.str (tx [c]))]
      simp [txs]
    refine EvP.imm (ev_join1 (l := T.filter nb) (by
      rw [← e]
      refine EvF.ev (ev_list1 (T := 1) (n := (tx T).cps.size) (D := sgn (tx T)) (R := fun j => .str (tx [T.getD j 0])) (keep := fun j => nb (T.getD j 0)) (ρt := fun j => [("sign", sgn (tx T) j)])
        ?_ (by decide +kernel) rfl (by decide +kernel) (Nat.le_refl 1) (itp_str O.handled noGo_name (F'.ev (by rfl) ce.k (ce.own _ _ (by kernel_rfl) (by decide)) (by kernel_rfl))) (by rw [tx_size]; omega)
        (fun i hi env' C ce => asp_name (ce.own _ _ (by kernel_rfl) (by decide)) ce.k) (fun j hj env2 C2 s2 ce2 x2 t2 F2 => test_one ?_ t2) (fun j hj _ env2 C2 s2 ce2 x2 t2 F2 => ?_))
      · intro y hy hfree
        simp only [List.mem_cons, List.not_mem_nil, or_false] at hy
        rcases hy with rfl | rfl | rfl <;> exact absurd hfree (by decide)
      · rw [tx_size] at hj
        rw [sgn_tx T j hj] at F2
        exact ts_not (ts_bool (ev_call (nm_global (ce2.ge Gs x2) (ce2.own _ _ (by kernel_rfl) (by decide)) (g_inb1 w.params) (by kernel_rfl)) ((fn_inb1 w.params).keeps (Xs.trans x2)) (args_cons (F2.ev (by rfl) ce2.k (ce2.own _ _ (by kernel_rfl) (by decide)) (by kernel_rfl)) args_nil) (by simp) (cl_inb1 (Xs.trans x2) (O.mono (by omega)))))
      · rw [tx_size] at hj
        rw [sgn_tx T j hj] at F2
        exact EvP.imm (F2.ev (by rfl) ce2.k (ce2.own _ _ (by kernel_rfl) (by decide)) (by kernel_rfl)) trivial) (Nat.le_trans (List.length_filter_le _ _) (by omega)) (by kernel_rfl)) trivial
  · have X1 := k1.ext hzM X
    have en : (((List.range (txs [T0, T1, T2]).length).filter fun _ => true).map fun i => PV.str (tx ([N0, N1, N2].getD i []))) = txs [N0, N1, N2] := rfl
    rw [en] at F1
    have hNl : ∀ N ∈ [N0, N1, N2], N.length ≤ 100 := fun N hN => by
      simp only [List.mem_cons, List.not_mem_nil, or_false] at hN
      rcases hN with rfl | rfl | rfl
      · rw [← hN0]; exact Nat.le_trans (List.length_filter_le _ _) (hT T0 (by simp))
      · rw [← hN1]; exact Nat.le_trans (List.length_filter_le _ _) (hT T1 (by simp))
      · rw [← hN2]; exact Nat.le_trans (List.length_filter_le _ _) (hT T2 (by simp))
    have ep : (((List.range (txs [N0, N1, N2]).length).filter fun _ => true).map fun i => PV.str (tx W)) = txs [W, W, W] := rfl
    refine sc_assign (d := .list (txs [W, W, W])) (T := 1) F1 (by
      rw [← ep]
      refine ev_list1 (T := 1) (n := (txs [N0, N1, N2]).length) (D := nth (txs [N0, N1, N2])) (R := fun i => .str (tx W)) (keep := fun _ => true) (ρt := fun i => [("name", nth (txs [N0, N1, N2]) i)])
        ?_ (by decide +kernel) rfl (by decide +kernel) (Nat.le_refl 1) (itp_list O.handled noGo_name (F1.ev (by rfl) K.F (.inl K.l_names) (by kernel_rfl))) (by rw [lN]; omega)
        (fun i hi env' C ce => asp_name (ce.own _ _ (by kernel_rfl) (by decide)) ce.k) (fun i hi env' C s ce x t F' => test_nil) (fun i hi _ env' C s' ce x t' F' => ?_)
      · intro y hy hfree
        simp only [List.mem_cons, List.not_mem_nil, or_false] at hy
        rcases hy with rfl | rfl <;> exact absurd hfree (by decide)
      · replace hi : i < 3 := hi
        rw [txs_nth _ _ (by exact hi)] at F'
        have hNi := three (a := N0) (b := N1) (c := N2) (P := fun N : List Nat => N.length ≤ 100) [] (hNl N0 (by simp)) (hNl N1 (by simp)) (hNl N2 (by simp)) i hi
        have hPi := three (a := N0) (b := N1) (c := N2) (P := fun N : List Nat => (N.map mapcL).flatten = W) [] (hP N0 (by simp)) (hP N1 (by simp)) (hP N2 (by simp)) i hi
        have hLi := three (a := N0) (b := N1) (c := N2) (P := fun N : List Nat => ∀ c ∈ N, (Txt.lower (tx [c])).length ≤ 1000) [] (hlow N0 (by simp)) (hlow N1 (by simp)) (hlow N2 (by simp)) i hi
        generalize [N0, N1, N2].getD i [] = N at F' hNi hPi hLi
        have Xs := X1.trans x
        have Gs := ce.ge (K.ge X1) x
        have e : (((List.range (tx N).cps.size).filter fun _ => true).map (fun j => PV.str (mapc (N.getD j 0)))) = strs' ((N.map mapcL).map tx) := by
          rw [tx_size, filt_true]
          unfold strs'
          rw [List.map_map, List.map_map]
          have e1 : N = (List.range N.length).map fun j => N.getD j 0 := by
            refine List.ext_getElem? fun i => ?_
            by_cases hi : i < N.length
            · simp [hi, List.getD_eq_getElem?_getD]
            · simp [hi]
          conv => rhs; rw [e1, List.map_map]
          refine List.map_congr_left fun j hj => ?_
          show PV.str _ = PV.str (tx (mapcL (N.getD j 0)))
          unfold mapcL
          rw [tx_of]
        refine EvP.imm (ev_joinF (l := N.map mapcL) hPi (by
          rw [← e]
          refine EvF.ev (ev_list1 (T := 1) (n := (tx N).cps.size) (D := sgn (tx N)) (R := fun j => .str (mapc (N.getD j 0))) (keep := fun _ => true) (ρt := fun j => [("sign", sgn (tx N) j)])
            ?_ (by decide +kernel) rfl (by decide +kernel) (Nat.le_refl 1) (itp_str O.handled noGo_name (F'.ev (by rfl) ce.k (ce.own _ _ (by kernel_rfl) (by decide)) (by kernel_rfl))) (by rw [tx_size]; omega)
            (fun i hi env' C ce => asp_name (ce.own _ _ (by kernel_rfl) (by decide)) ce.k) (fun j hj env2 C2 s2 ce2 x2 t2 F2 => test_nil) (fun j hj _ env2 C2 s2 ce2 x2 t2 F2 => ?_))
          · intro y hy hfree
            simp only [List.mem_cons, List.not_mem_nil, or_false] at hy
            rcases hy with rfl | rfl | rfl <;> exact absurd hfree (by decide)
          · rw [tx_size] at hj
            rw [sgn_tx N j hj] at F2
            exact EvP.imm (ev_call (nm_global (ce2.ge Gs x2) (ce2.own _ _ (by kernel_rfl) (by decide)) (g_map w.params) (by kernel_rfl)) ((fn_map w.params).keeps (Xs.trans x2)) (args_cons (F2.ev (by rfl) ce2.k (ce2.own _ _ (by kernel_rfl) (by decide)) (by kernel_rfl)) args_nil) (by simp) (cl_map (hLi _ (nat_mem hj)) (Xs.trans x2) (O.mono (by omega)))) trivial) (by omega) (by kernel_rfl)) trivial) F1.tk (.inr ⟨K.c_plain, K.s_plain⟩) K.F (fun s2 F2 k2 => ?_) (swaps_false K.c_plain)
    exact sq_eq (ss' := List.drop 11 (bodyOf 23)) (by rfl) (hq s2 (B.km (k1.trans k2)) (k2.ext hzM X1) F2)
end T55

end
section
open PySem PySem.W PyProof.Rows PySem.Calls
namespace T55
set_option maxRecDepth 100000
set_option linter.unusedVariables false
variable {w : World} {A : Around} {env : Env} {h₁ : Heap} {s : Shared} {M : List Addr} {ρ : List (Str × PV)} {E : Value → Shared → Prop} {Q : Flow → Shared → Prop}
theorem flat_txs {l : List (List Nat)} (h : ∀ T ∈ l, ∀ c ∈ T, c < 0x110000) : (txs l).all flat = true := by
  rw [txs_strs]
  refine flat_strs fun x hx => ?_
  obtain ⟨T, hT, rfl⟩ := List.mem_map.mp hx
  unfold PyData.strOk
  rw [Array.all_eq_true]
  intro i hi
  have hi' : i < T.length := by simpa [tx] using hi
  have e : (tx T).cps[i] = T[i] := by simp [tx]
  refine decide_eq_true ?_
  exact e ▸ h T hT _ (List.getElem_mem hi')
theorem flatEqs_txs (l : List (List Nat)) : flatEqs (txs l) (txs l) = true := by
  rw [txs_strs, flatEqs_strs]
  simp
theorem word_len (lo : Int) : (wordL lo).length = 5 := by simp [wordL]
set_option maxHeartbeats 1000000 in
theorem law6 {T0 T1 T2 : List Nat} {lo : Int} {s0 : Shared} (B : Bs M s0 s) (hlo : 0 ≤ lo ∧ lo ≤ 1000) (hok : ∀ T ∈ [T0, T1, T2], ∀ c ∈ T, c < 0x110000) (K : KLw env M) (X : Ext (HZ w.params) s.heap) (hzM : ∀ b ∈ M, (HZ w.params).get? b = none) (O : Ok A 6)
    (F : FC env M (("plain", .list (txs [wordL lo, wordL lo, wordL lo])) :: ρ) s) (hpc : ρ.lookup ("pieces" : Str) = some (.list (txs [T0, T1, T2]))) (hty : ρ.lookup ("typed" : Str) = some (.list (txs [T0, T1, T2]))) (hlw : ρ.lookup ("low" : Str) = some (.int lo))
    (hq : ∀ s', Bs M s0 s' → Ext (HZ w.params) s'.heap → FC env M (("plain", .list (txs [wordL lo, wordL lo, wordL lo])) :: ρ) s' → Sq w A env (List.drop 12 (bodyOf 23)) Q E s') : Sq w A env (List.drop 11 (bodyOf 23)) Q E s := by
  conv in (List.drop 11 (bodyOf 23)) => whnf
  have lk : ∀ {x : Str} {d : PV}, x ≠ "plain" → ρ.lookup x = some d → (("plain", PV.list (txs [wordL lo, wordL lo, wordL lo])) :: ρ : List (Str × PV)).lookup x = some d := fun {x d} hx h => by
    rw [List.lookup_cons]
    have : (x == ("plain" : Str)) = false := by simpa using hx
    rw [this]; exact h
  have hu : A.units + 64 < cLine := by have := O.units; omega
  have cvl := F.cv (x := "low") (lk (by decide) hlw) K.c_low
  have hwo : ∀ c ∈ wordL lo, c < 0x110000 := fun c hc => by
    obtain ⟨p, hp, rfl⟩ := List.mem_map.mp hc
    have := List.mem_range.mp hp
    omega
  have fw : (txs [wordL lo, wordL lo, wordL lo]).all flat = true := flat_txs (fun T hT c hc => by
    simp only [List.mem_cons, List.not_mem_nil, or_false] at hT
    rcases hT with rfl | rfl | rfl <;> exact hwo c hc)
  have e3 : (List.replicate 3 [PV.str (tx (wordL lo))]).flatten = txs [wordL lo, wordL lo, wordL lo] := rfl
  have ew : (((List.range 5).filter fun _ => true).map fun p : Nat => PV.str (tx [(97 + lo + (p : Int)).toNat])) = txs ((wordL lo).map fun c => [c]) := by
    rw [filt_true]; simp [txs, wordL]
  refine sq_if (b := (!flatEqs (txs [T0, T1, T2]) (txs [T0, T1, T2])) || (!flatEqs (txs [wordL lo, wordL lo, wordL lo]) (txs [wordL lo, wordL lo, wordL lo]))) (ts_or (ts_cmp (F.ev (lk (by decide) hpc) K.F (.inl K.l_pieces) (by kernel_rfl)) (F.ev (lk (by decide) hty) K.F (.inl K.l_typed) (by kernel_rfl)) (cm_ne_list hu (flat_txs hok) (flat_txs hok)))
    (fun _ => ts_cmp (F.ev (by rfl) K.F (.inr ⟨K.c_plain, K.s_plain⟩) (by kernel_rfl)) (by
      rw [← e3]
      exact ev_bin (EvF.ev (ev_listF (args_cons (d := .str (tx (wordL lo))) (ev_join1 (l := wordL lo) (by
        rw [← ew]
        refine EvF.ev (ev_list1 (T := 1) (n := 5) (D := fun i => .int (i : Int)) (R := fun p => .str (tx [(97 + lo + (p : Int)).toNat])) (keep := fun _ => true) (ρt := fun i => [("place", .int (i : Int))])
          ?_ (by decide +kernel) rfl (by decide +kernel) (Nat.le_refl 1) (itp_range O.handled noGo_name (by omega) (fun s E k t => ev_range (K.ge X) K.g_range ev_int (by intro _; rfl) s E k t)) (by omega)
          (fun i hi env' C ce => asp_name (ce.own _ _ (by kernel_rfl) (by decide)) ce.k) (fun i hi env' C s ce x t F' => test_nil) (fun p hp _ env' C s' ce x t' F' => ?_))
        · intro y hy hfree
          simp only [List.mem_cons, List.not_mem_nil, or_false] at hy
          rcases hy with rfl | rfl | rfl | rfl <;> first | exact absurd hfree (by decide) | exact K.s_low
        · exact EvP.imm (ev_call (nm_builtin (ce.ge (K.ge X) x) (ce.own _ _ (by kernel_rfl) (by decide)) (b_chr w.params) (by kernel_rfl)) (keeps_val fun a => by simp) (args_cons (ev_bin (ev_bin ev_int (cvl.ev ce x (by kernel_rfl) (by kernel_rfl) (by kernel_rfl)) op_add_int) (F'.ev (by rfl) ce.k (ce.own _ _ (by kernel_rfl) (by decide)) (by kernel_rfl)) op_add_int) args_nil) (by simp) (cl_chr (by omega) (by omega))) trivial) (by rw [word_len]; omega) (by kernel_rfl)) args_nil) (by intro d hd; simp at hd; subst hd; trivial) (by rw [sizeLine_eq]; show 1 ≤ 16777216; decide))) ev_int (OpF.op (op_mul_list (n := 3) (by intro d hd; simp at hd; subst hd; trivial) (by show 1 * 3 ≤ 100000; decide) (by decide)))) (cm_ne_list hu fw fw))) F.tk (fun h s1 k1 => ?_) (fun h s1 k1 => ?_)
  · rw [flatEqs_txs, flatEqs_txs] at h
    cases h
  · exact sq_nil (sq_eq (ss' := List.drop 12 (bodyOf 23)) (by rfl) (hq s1 (B.kp k1) (X.trans k1.ext) (F.kp k1)))
end T55

end
section
open PySem PySem.W PyProof.Rows PySem.Calls
namespace T55
set_option maxRecDepth 100000
set_option linter.unusedVariables false
variable {w : World} {A : Around} {env : Env} {h₁ : Heap} {s : Shared} {M : List Addr} {ρ : List (Str × PV)} {E : Value → Shared → Prop} {Q : Flow → Shared → Prop}
noncomputable def dearV (n : Int) : Int := ((digs n).map fun f => min f 2).sum + Int.fmod (Int.fdiv n 1024) 3 * 2
theorem min_sum_bound (l : List Int) (h : ∀ x ∈ l, 0 ≤ x ∧ x < 4) : ∀ x ∈ l.map (fun f => min f 2), 0 ≤ x ∧ x < 2 ^ 40 := fun x hx => by
  obtain ⟨f, hf, rfl⟩ := List.mem_map.mp hx
  have := h f hf
  omega
set_option maxHeartbeats 1000000 in
theorem law7 {T0 T1 T2 N0 N1 N2 W : List Nat} {n0 n1 n2 n3 : Int} {s0 : Shared} (B : Bs M s0 s) (hT : ∀ T ∈ [T0, T1, T2], T.length ≤ 40) (hW : W.length ≤ 40) (hlow : ∀ T ∈ [T0, T1, T2, W], ∀ c ∈ T, (Txt.lower (tx [c])).length ≤ 1000)
    (hd0 : lev T0 W 14 = dearV n0) (hd1 : lev T1 W 14 = dearV n1) (hd2 : lev T2 W 14 = dearV n2)
    (K : KLw env M) (X : Ext (HZ w.params) s.heap) (hzM : ∀ b ∈ M, (HZ w.params).get? b = none) (O : Ok A 6)
    (F : FC env M [("plain", .list (txs [W, W, W])), ("names", .list (txs [N0, N1, N2])), ("pieces", .list (txs [T0, T1, T2])), ("rows", .list (rowsPV [digs n0, digs n1, digs n2])), ("numbers", .list (pInts [n0, n1, n2, n3]))] s)
    (hq : ∀ s', Bs M s0 s' → Ext (HZ w.params) s'.heap → FC env M [("four", .list (txs [N0, N1, N2, W])), ("rows", .list (rowsPV [digs n0, digs n1, digs n2]))] s' → Sq w A env (List.drop 15 (bodyOf 23)) Q E s') : Sq w A env (List.drop 12 (bodyOf 23)) Q E s := by
  conv in (List.drop 12 (bodyOf 23)) => whnf
  have hu : A.units + 64 < cLine := by have := O.units; omega
  have cvp := F.cv (x := "plain") (by rfl) K.c_plain
  refine sc_comp (T := 1) (n := (txs [T0, T1, T2]).length) (D := nth (txs [T0, T1, T2])) (R := fun i => .int (lev ([T0, T1, T2].getD i []) W 14)) (keep := fun _ => true) (ρt := fun i => [("piece", nth (txs [T0, T1, T2]) i)]) F K.l_dear K.F
      ?_ (by decide +kernel) rfl (by decide +kernel) (Nat.le_refl 1) (itp_list O.handled noGo_name (F.ev (by rfl) K.F (.inl K.l_pieces) (by kernel_rfl))) (by show 3 ≤ 1000; omega) F.tk
      (fun i hi env' C ce => asp_name (ce.own _ _ (by kernel_rfl) (by decide)) ce.k) (fun i hi env' C s ce x t F' => test_nil) (fun i hi _ env' C s' ce x t' F' => ?_) (fun s1 F1 k1 => ?_) (swaps_true K.F K.l_dear (by kernel_rfl) (by kernel_rfl))
  · intro y hy hfree
    simp only [List.mem_cons, List.not_mem_nil, or_false] at hy
    rcases hy with rfl | rfl | rfl | rfl <;> first | exact absurd hfree (by decide) | exact K.s_plain
  · replace hi : i < 3 := hi
    rw [txs_nth _ _ (by exact hi)] at F'
    have hTi := three (a := T0) (b := T1) (c := T2) (P := fun T : List Nat => T.length ≤ 40) [] (hT T0 (by simp)) (hT T1 (by simp)) (hT T2 (by simp)) i hi
    have hLi := three (a := T0) (b := T1) (c := T2) (P := fun T : List Nat => ∀ c ∈ T, (Txt.lower (tx [c])).length ≤ 1000) [] (hlow T0 (by simp)) (hlow T1 (by simp)) (hlow T2 (by simp)) i hi
    generalize [T0, T1, T2].getD i [] = T at F' hTi hLi ⊢
    have Xs := X.trans x
    exact EvP.imm (ev_call (nm_global (ce.ge (K.ge X) x) (ce.own _ _ (by kernel_rfl) (by decide)) (g_lev w.params) (by kernel_rfl)) ((fn_lev w.params).keeps Xs)
      (args_cons (F'.ev (by rfl) ce.k (ce.own _ _ (by kernel_rfl) (by decide)) (by kernel_rfl)) (args_cons (ev_item_list (d := .str (tx W)) (cvp.ev ce x (by kernel_rfl) (by kernel_rfl) (by kernel_rfl)) ev_int (by decide) (by decide) rfl) (args_cons ev_int args_nil))) (by simp)
      (cl_lev hTi hW (fun c hc => hc.elim (hLi c) (hlow W (by simp) c)) (by decide) Xs (O.mono (by omega)))) trivial
  · have ed : (((List.range (txs [T0, T1, T2]).length).filter fun _ => true).map fun i => PV.int (lev ([T0, T1, T2].getD i []) W 14)) = pInts [dearV n0, dearV n1, dearV n2] := by
      rw [← hd0, ← hd1, ← hd2]; rfl
    rw [ed] at F1
    have X1 := k1.ext hzM X
    have ed2 : (((List.range 3).filter fun _ => true).map fun i => PV.int (dearV ([n0, n1, n2].getD i 0))) = pInts [dearV n0, dearV n1, dearV n2] := rfl
    have nthr : ∀ i, i < 3 → nth (rowsPV [digs n0, digs n1, digs n2]) i = .list (pInts (digs ([n0, n1, n2].getD i 0))) := fun i hi => by
      have : i = 0 ∨ i = 1 ∨ i = 2 := by omega
      rcases this with rfl | rfl | rfl <;> rfl
    have nthn : ∀ i, i < 3 → nth (pInts [n0, n1, n2, n3]) i = .int ([n0, n1, n2].getD i 0) := fun i hi => by
      have : i = 0 ∨ i = 1 ∨ i = 2 := by omega
      rcases this with rfl | rfl | rfl <;> rfl
    refine sq_if (b := !flatEqs (pInts [dearV n0, dearV n1, dearV n2]) (pInts [dearV n0, dearV n1, dearV n2])) (ts_cmp (F1.ev (by rfl) K.F (.inl K.l_dear) (by kernel_rfl)) (by
      rw [← ed2]
      refine EvF.ev (ev_list1 (T := 1) (n := 3) (D := fun i => .tup [nth (rowsPV [digs n0, digs n1, digs n2]) i, nth (pInts [n0, n1, n2, n3]) i]) (R := fun i => .int (dearV ([n0, n1, n2].getD i 0))) (keep := fun _ => true)
        (ρt := fun i => [("number", nth (pInts [n0, n1, n2, n3]) i), ("row", nth (rowsPV [digs n0, digs n1, digs n2]) i)])
        ?_ (by decide +kernel) rfl (by decide +kernel) (Nat.le_refl 1) (itp_zip O.handled (nm_builtin (K.ge X1) K.g_zip (b_zip w.params) (by kernel_rfl)) (F1.ev (by rfl) K.F (.inl K.l_rows) (by kernel_rfl)) (F1.ev (by rfl) K.F (.inl K.l_numbers) (by kernel_rfl)) rfl (by show 3 ≤ 4; decide)) (by omega)
        (fun i hi env' C ce => asp_tup2 O.handled (ce.own _ _ (by kernel_rfl) (by decide)) (ce.own _ _ (by kernel_rfl) (by decide)) ce.k) (fun i hi env' C s ce x t F' => test_nil) (fun i hi _ env' C s' ce x t' F' => ?_))
      · intro y hy hfree
        simp only [List.mem_cons, List.not_mem_nil, or_false] at hy
        rcases hy with rfl | rfl | rfl | rfl <;> exact absurd hfree (by decide)
      · rw [nthr i hi, nthn i hi] at F'
        generalize [n0, n1, n2].getD i 0 = n at F' ⊢
        have Gs := ce.ge (K.ge X1) x
        have em : (((List.range (pInts (digs n)).length).filter fun _ => true).map fun j => PV.int (min ((digs n).getD j 0) 2)) = pInts ((digs n).map fun f => min f 2) := by
          have e1 := range_filter_map 0 (digs n) (fun _ => true) (fun f => PV.int (min f 2))
          rw [filt_true] at e1
          rw [pInts_len, filt_true, e1, filt_true]
          simp [pInts]
        refine EvP.imm (ev_bin (ev_call (nm_builtin Gs (ce.own _ _ (by kernel_rfl) (by decide)) (b_sum w.params) (by kernel_rfl)) (keeps_val fun a => by simp) (args_cons (by
          rw [← em]
          refine EvF.ev (ev_list1 (T := 1) (n := (pInts (digs n)).length) (D := nth (pInts (digs n))) (R := fun j => .int (min ((digs n).getD j 0) 2)) (keep := fun _ => true) (ρt := fun j => [("form", nth (pInts (digs n)) j)])
            ?_ (by decide +kernel) rfl (by decide +kernel) (Nat.le_refl 1) (itp_list O.handled noGo_name (F'.ev (by rfl) ce.k (ce.own _ _ (by kernel_rfl) (by decide)) (by kernel_rfl))) (by rw [pInts_len, digs_len]; omega)
            (fun i hi env' C ce => asp_name (ce.own _ _ (by kernel_rfl) (by decide)) ce.k) (fun i hi env' C s ce x t F' => test_nil) (fun j hj _ env2 C2 s2 ce2 x2 t2 F2 => ?_))
          · intro y hy hfree
            simp only [List.mem_cons, List.not_mem_nil, or_false] at hy
            rcases hy with rfl | rfl | rfl <;> exact absurd hfree (by decide)
          · rw [pInts_len] at hj
            rw [nth_pInts _ _ hj] at F2
            exact EvP.imm (ev_call (nm_builtin (ce2.ge Gs x2) (ce2.own _ _ (by kernel_rfl) (by decide)) (b_min w.params) (by kernel_rfl)) (keeps_val fun a => by simp) (args_cons (F2.ev (by rfl) ce2.k (ce2.own _ _ (by kernel_rfl) (by decide)) (by kernel_rfl)) (args_cons ev_int args_nil)) (by simp) (cl_min2 O.handled)) trivial) args_nil) (by simp) (cl_sum O.handled (min_sum_bound _ (digs_bound n)) (by rw [List.length_map, digs_len]; omega)))
          (ev_bin (ev_bin (ev_bin (F'.ev (by rfl) ce.k (ce.own _ _ (by kernel_rfl) (by decide)) (by kernel_rfl)) ev_int (op_div_int (by decide) (no_pylong (by decide)))) ev_int (op_mod_int (by decide))) ev_int (op_mul_int (IntMulOk.of_right (by decide)))) op_add_int) trivial) (cm_ne_list hu (flat_ints _) (flat_ints _))) F1.tk (fun h s2 k2 => ?_) (fun h s2 k2 => sq_nil ?_)
    · rw [flatEqs_ints] at h
      simp at h
    · have F2 := F1.kp k2
      have X2 := X1.trans k2.ext
      have e1 : pick (txs [W, W, W]) none (some (1 : Int)) none = txs [W] := by
        rw [show (1 : Int) = ((1 : Nat) : Int) from rfl, pick_to]; rfl
      have e4 : txs [N0, N1, N2] ++ txs [W] = txs [N0, N1, N2, W] := rfl
      refine sc_assign (d := .list (txs [N0, N1, N2, W])) (T := 1) F2 (by
        rw [← e4, ← e1]
        exact ev_binF (F2.ev (by rfl) K.F (.inl K.l_names) (by kernel_rfl)) (ev_slice_list (F2.ev (by rfl) K.F (.inr ⟨K.c_plain, K.s_plain⟩) (by kernel_rfl)) part_none (part_some ev_int) (by rw [sizeLine_eq]; show 3 ≤ 16777216; decide)) (op_add_list (imm_txs _) (by rw [e1]; exact imm_txs _) (by rw [e1, sizeLine_eq]; show 3 + 1 ≤ 16777216; decide))) F2.tk (.inr ⟨K.c_four, K.s_four⟩) K.F (fun s3 F3 k3 => ?_)
      exact sq_eq (ss' := List.drop 15 (bodyOf 23)) (by rfl) (hq s3 (((B.km k1).kp k2).km k3) (k3.ext hzM X2) (F3.sub ⟨by rfl, by rfl, trivial⟩))
end T55

end
section
open PySem PySem.W PyProof.Rows PySem.Calls
namespace T55
set_option maxRecDepth 100000
set_option linter.unusedVariables false
variable {w : World} {A : Around} {env : Env} {h₁ : Heap} {s : Shared} {M : List Addr} {ρ : List (Str × PV)} {E : Value → Shared → Prop} {Q : Flow → Shared → Prop}
theorem imm_nth (l : List (List Nat)) (i : Nat) : Imm (nth (txs l) i) := by
  by_cases h : i < l.length
  · rw [txs_nth l i h]; trivial
  · have : nth (txs l) i = .none := by simp [nth, txs, List.getD_eq_getElem?_getD, h]
    rw [this]; trivial
noncomputable def wsL (N0 N1 N2 W : List Nat) : List Int := [lev N0 N1 10, lev N0 N2 10, lev N0 W 10, lev N1 N2 10, lev N1 W 10, lev N2 W 10]
set_option maxHeartbeats 1000000 in
theorem law8 {N0 N1 N2 W : List Nat} {s0 : Shared} (B : Bs M s0 s) (hT : ∀ T ∈ [N0, N1, N2, W], T.length ≤ 40) (hlow : ∀ T ∈ [N0, N1, N2, W], ∀ c ∈ T, (Txt.lower (tx [c])).length ≤ 1000)
    (K : KLw env M) (X : Ext (HZ w.params) s.heap) (hzM : ∀ b ∈ M, (HZ w.params).get? b = none) (O : Ok A 6)
    (F : FC env M (("four", .list (txs [N0, N1, N2, W])) :: ρ) s)
    (hq : ∀ s', Bs M s0 s' → Ext (HZ w.params) s'.heap → FC env M (("ways", .list (pInts (wsL N0 N1 N2 W))) :: ("four", .list (txs [N0, N1, N2, W])) :: ρ) s' → Sq w A env (List.drop 16 (bodyOf 23)) Q E s') : Sq w A env (List.drop 15 (bodyOf 23)) Q E s := by
  conv in (List.drop 15 (bodyOf 23)) => whnf
  have cvf := F.cv (x := "four") (by rfl) K.c_four
  have l4 : (txs [N0, N1, N2, W]).length = 4 := rfl
  have ef : flatI (fun i => (txs ([N0, N1, N2, W].drop (i + 1))).length) (fun i j => .int (lev ([N0, N1, N2, W].getD i []) ([N0, N1, N2, W].getD (i + 1 + j) []) 10)) (txs [N0, N1, N2, W]).length = pInts (wsL N0 N1 N2 W) := rfl
  have hmem : ∀ i, i < 4 → [N0, N1, N2, W].getD i [] ∈ [N0, N1, N2, W] := fun i hi => by
    have : [N0, N1, N2, W].getD i [] = [N0, N1, N2, W][i] := by simp [List.getD_eq_getElem?_getD, hi]
    rw [this]; exact List.getElem_mem _
  refine sc_assign (d := .list (pInts (wsL N0 N1 N2 W))) (T := 1) F (by
    rw [← ef]
    refine ev_comp2 (n := (txs [N0, N1, N2, W]).length) (D1 := fun i => .tup [.int i, nth (txs [N0, N1, N2, W]) i]) (m := fun i => (txs ([N0, N1, N2, W].drop (i + 1))).length) (D2 := fun i j => nth (txs ([N0, N1, N2, W].drop (i + 1))) j)
      (R := fun i j => .int (lev ([N0, N1, N2, W].getD i []) ([N0, N1, N2, W].getD (i + 1 + j) []) 10)) (ρt := fun i => [("one", nth (txs [N0, N1, N2, W]) i), ("k", .int (i : Int))])
      ?_ (by decide +kernel) rfl (by decide +kernel) (by kernel_rfl) (itp_enum_list O.handled (nm_builtin (K.ge X) K.g_enumerate (b_enum w.params) (by kernel_rfl)) (F.ev (by rfl) K.F (.inr ⟨K.c_four, K.s_four⟩) (by kernel_rfl))) (by rw [ef]; show 6 ≤ 1000; omega) (fun i hi => by simp [txs]; omega)
      (fun i hi env' C ce => asp_tup2 O.handled (ce.own _ _ (by kernel_rfl) (by decide)) (ce.own _ _ (by kernel_rfl) (by decide)) ce.k) (fun i p hp => ?_) (fun i => by rfl) (fun i hi env' C D s' ce x F' al => ?_) (fun i hi j hj env' C s' ce x F' => ?_) (fun _ _ => trivial) (fun i j => imm_nth _ _)
    · intro y hy hfree
      simp only [List.mem_cons, List.not_mem_nil, or_false] at hy
      rcases hy with rfl | rfl | rfl | rfl | rfl | rfl <;> first | exact absurd hfree (by decide) | exact K.s_four
    · simp only [List.mem_cons, List.not_mem_nil, or_false] at hp
      rcases hp with rfl | rfl
      · exact imm_nth _ _
      · trivial
    · have e1 : pick (txs [N0, N1, N2, W]) (some ((i : Int) + 1)) none none = txs ([N0, N1, N2, W].drop (i + 1)) := by
        rw [show ((i : Int) + 1) = ((i + 1 : Nat) : Int) by omega, pick_from _ _ (by rw [l4] at hi ⊢; omega)]
        simp [txs, List.map_drop]
      refine itm_list O.handled noGo_name al fun E' => ?_
      rw [← e1]
      refine wp_use ((ev_slice_listF (imm_txs _) (cvf.ev ce x (by kernel_rfl) (by kernel_rfl) (by kernel_rfl)) (part_some (ev_bin (F'.ev (by rfl) ce.k (ce.own _ _ (by kernel_rfl) (by decide)) (by kernel_rfl)) ev_int op_add_int)) part_none (by rw [sizeLine_eq]; show 4 ≤ 16777216; decide)).run s' E' (Ext.refl _) F'.tk) fun v s'' r q => ⟨r.imp (fun b hb hm => ?_) fun _ _ _ e => e, q⟩
      have := al b hm
      rw [show s'.heap.get? b = none from hb] at this; cases this
    · rw [l4] at hi
      have hj' : j < 3 - i := by
        have : (txs ([N0, N1, N2, W].drop (i + 1))).length = 3 - i := by
          simp only [txs, List.length_map, List.length_drop]
          show 4 - (i + 1) = 3 - i
          omega
        rw [← this]; exact hj
      have e2 : nth (txs ([N0, N1, N2, W].drop (i + 1))) j = .str (tx ([N0, N1, N2, W].getD (i + 1 + j) [])) := by
        rw [txs_nth _ _ (by rw [List.length_drop]; show j < 4 - (i + 1); omega)]
        rw [List.getD_eq_getElem?_getD, List.getElem?_drop, ← List.getD_eq_getElem?_getD]
      have F2 : T55.Fr env' [("two", .str (tx ([N0, N1, N2, W].getD (i + 1 + j) []))), ("one", .str (tx ([N0, N1, N2, W].getD i []))), ("k", .int (i : Int))] s' := by
        have := F'
        rw [e2, txs_nth _ _ (by exact hi)] at this
        exact this
      have ma := hmem i hi
      have mb := hmem (i + 1 + j) (by omega)
      generalize [N0, N1, N2, W].getD i [] = a at F2 ma ⊢
      generalize [N0, N1, N2, W].getD (i + 1 + j) [] = b at F2 mb ⊢
      have Xs := X.trans x
      exact ev_call (nm_global (ce.ge (K.ge X) x) (ce.own _ _ (by kernel_rfl) (by decide)) (g_lev w.params) (by kernel_rfl)) ((fn_lev w.params).keeps Xs)
        (args_cons (F2.ev (by rfl) ce.k (ce.own _ _ (by kernel_rfl) (by decide)) (by kernel_rfl)) (args_cons (F2.ev (by rfl) ce.k (ce.own _ _ (by kernel_rfl) (by decide)) (by kernel_rfl)) (args_cons ev_int args_nil))) (by simp)
        (cl_lev (hT a ma) (hT b mb) (fun c hc => hc.elim (hlow a ma c) (hlow b mb c)) (by decide) Xs (O.mono (by omega)))) F.tk (.inr ⟨K.c_ways, K.s_ways⟩) K.F (fun s1 F1 k1 => ?_) (swaps_false K.c_ways)
  exact sq_eq (ss' := List.drop 16 (bodyOf 23)) (by rfl) (hq s1 (B.km k1) (k1.ext hzM X) F1)
end T55

end
section
open PySem PySem.W PyProof.Rows PySem.Calls
namespace T55
set_option maxRecDepth 100000
set_option linter.unusedVariables false
variable {w : World} {A : Around} {env : Env} {h₁ : Heap} {s : Shared} {M : List Addr} {ρ : List (Str × PV)} {E : Value → Shared → Prop} {Q : Flow → Shared → Prop}
theorem ItP.congr {T : Nat} {tg iter : Expr} {n : Nat} {D D' : Nat → PV} (h : ItP w A env h₁ T tg iter n D) (e : ∀ i, i < n → D i = D' i) : ItP w A env h₁ T tg iter n D' := .mk fun s E k t =>
  wpAny_mono (h.run s E k t) (fun x s₁ z => wpAny_mono z (fun it s₂ z => by
    obtain ⟨⟨h₀, I, fp, St, rfl, x0, x2, W, st0⟩, q⟩ := z
    exact ⟨⟨h₀, I, fp, St, rfl, x0, x2, ⟨W.new, W.live, W.frame, fun i s Q E hi x t st hQ => W.item i s Q E hi x t st (by rw [e i hi]; exact hQ), W.done, W.iter⟩, st0⟩, q⟩) fun _ _ e => e) fun _ _ e => e
noncomputable def xs3 : List Int := [0, 0, 1, 2]
noncomputable def ys3 : List Int := [1, 3, 3, 4]
noncomputable def zs3 : List Int := [2, 4, 5, 5]
noncomputable def tPV : List PV := [.tup (pInts [0, 1, 2]), .tup (pInts [0, 3, 4]), .tup (pInts [1, 3, 5]), .tup (pInts [2, 4, 5])]
noncomputable def topV (ws : List Int) : Int := max (max (ws.getD 0 0 + ws.getD 5 0) (ws.getD 1 0 + ws.getD 4 0)) (ws.getD 2 0 + ws.getD 3 0)
noncomputable def sumsV (ws : List Int) : List Int := [ws.getD 0 0 + ws.getD 5 0, ws.getD 1 0 + ws.getD 4 0, ws.getD 2 0 + ws.getD 3 0]
noncomputable def cutsV (ws : List Int) : List Int := (sumsV ws).map fun b => topV ws - b
noncomputable def tailsV (ws : List Int) : List Int := [ws.getD 0 0 + ws.getD 1 0 + ws.getD 2 0 - topV ws, ws.getD 0 0 + ws.getD 3 0 + ws.getD 4 0 - topV ws, ws.getD 1 0 + ws.getD 3 0 + ws.getD 5 0 - topV ws, ws.getD 2 0 + ws.getD 4 0 + ws.getD 5 0 - topV ws]
theorem wanted4 {es1 es2 es3 es4 : List Expr} {n1 n2 n3 n4 n : Nat} {p1 p2 p3 p4 pos : Pos}
    (h1 : constInts es1 = some [0, 1, 2]) (h2 : constInts es2 = some [0, 3, 4]) (h3 : constInts es3 = some [1, 3, 5]) (h4 : constInts es4 = some [2, 4, 5]) :
    EvP w A env h₁ (.Tuple [.Tuple es1 n1 p1, .Tuple es2 n2 p2, .Tuple es3 n3 p3, .Tuple es4 n4 p4] n pos) (.tup tPV) :=
  EvF.ev (ev_tupleG (argsF_cons (const_tup h1 (by decide)) (argsF_cons (const_tup h2 (by decide)) (argsF_cons (const_tup h3 (by decide)) (argsF_cons (const_tup h4 (by decide)) argsF_nil)))) (by rw [sizeLine_eq]; show 4 ≤ 16777216; decide))
set_option maxHeartbeats 1000000 in
theorem law9 {ws : List Int} {s0 : Shared} (B : Bs M s0 s) (h6 : ws.length = 6) (K : KLw env M) (X : Ext (HZ w.params) s.heap) (hzM : ∀ b ∈ M, (HZ w.params).get? b = none) (O : Ok A 6)
    (F : FC env M [("ways", .list (pInts ws)), ("rows", d)] s)
    (hq : ∀ s', Bs M s0 s' → Ext (HZ w.params) s'.heap → FC env M [("tails", .list (pInts (tailsV ws))), ("cuts", .list (pInts (cutsV ws))), ("rows", d)] s' → Sq w A env (List.drop 20 (bodyOf 23)) Q E s') : Sq w A env (List.drop 16 (bodyOf 23)) Q E s := by
  conv in (List.drop 16 (bodyOf 23)) => whnf
  have ew : ∀ {p : Pos}, EvP w A env s.heap (.Name "ways" p) (.list (pInts ws)) := F.ev (by rfl) K.F (.inr ⟨K.c_ways, K.s_ways⟩) (by kernel_rfl)
  have eg : ∀ {p1 p2 p3 p4 : Pos}, NmP w A env s.heap (.Name "add" p1) (.ref 42) := nm_global (K.ge X) K.g_add (g_add w.params) (by kernel_rfl)
  refine sc_assign (d := .list (pInts (sumsV ws))) (T := 1) F (ev_listF (args_cons (d := .int (ws.getD 0 0 + ws.getD 5 0)) (ev_call (nm_global (K.ge X) K.g_add (g_add w.params) (by kernel_rfl)) ((fn_add w.params).keeps X) (args_cons (ev_item_list ew ev_int (by decide) (by decide) (pInts_get ws 0 (by omega))) (args_cons (ev_item_list ew ev_int (by decide) (by decide) (pInts_get ws 5 (by omega))) args_nil)) (by simp) (cl_add_int X (O.mono (by omega))))
    (args_cons (d := .int (ws.getD 1 0 + ws.getD 4 0)) (ev_call (nm_global (K.ge X) K.g_add (g_add w.params) (by kernel_rfl)) ((fn_add w.params).keeps X) (args_cons (ev_item_list ew ev_int (by decide) (by decide) (pInts_get ws 1 (by omega))) (args_cons (ev_item_list ew ev_int (by decide) (by decide) (pInts_get ws 4 (by omega))) args_nil)) (by simp) (cl_add_int X (O.mono (by omega))))
    (args_cons (d := .int (ws.getD 2 0 + ws.getD 3 0)) (ev_call (nm_global (K.ge X) K.g_add (g_add w.params) (by kernel_rfl)) ((fn_add w.params).keeps X) (args_cons (ev_item_list ew ev_int (by decide) (by decide) (pInts_get ws 2 (by omega))) (args_cons (ev_item_list ew ev_int (by decide) (by decide) (pInts_get ws 3 (by omega))) args_nil)) (by simp) (cl_add_int X (O.mono (by omega)))) args_nil))) (imm_ints _) (by rw [sizeLine_eq]; show 3 ≤ 16777216; decide)) F.tk (.inl K.l_sums) K.F (fun s1 F1 k1 => ?_)
  have X1 := k1.ext hzM X
  refine sc_assign (d := .int (topV ws)) (T := 1) F1 (EvP.imm (ev_call (nm_builtin (K.ge X1) K.g_max (b_max w.params) (by kernel_rfl)) (keeps_val fun a => by simp) (args_cons (F1.ev (by rfl) K.F (.inl K.l_sums) (by kernel_rfl)) args_nil) (by simp) (cl_max3 O.handled)) trivial) F1.tk (.inr ⟨K.c_top, K.s_top⟩) K.F (fun s2 F2 k2 => ?_)
  have X2 := k2.ext hzM X1
  have cvt := F2.cv (x := "top") (by rfl) K.c_top
  have cvw := F2.cv (x := "ways") (by rfl) K.c_ways
  have ec : (((List.range (pInts (sumsV ws)).length).filter fun _ => true).map fun i => PV.int (topV ws - (sumsV ws).getD i 0)) = pInts (cutsV ws) := rfl
  have ls : (sumsV ws).length = 3 := rfl
  refine sc_comp (T := 1) (n := (pInts (sumsV ws)).length) (D := nth (pInts (sumsV ws))) (R := fun i => .int (topV ws - (sumsV ws).getD i 0)) (keep := fun _ => true) (ρt := fun i => [("both", nth (pInts (sumsV ws)) i)]) F2 K.l_cuts K.F
      ?_ (by decide +kernel) rfl (by decide +kernel) (Nat.le_refl 1) (itp_list O.handled noGo_name (F2.ev (by rfl) K.F (.inl K.l_sums) (by kernel_rfl))) (by rw [pInts_len, ls]; omega) F2.tk
      (fun i hi env' C ce => asp_name (ce.own _ _ (by kernel_rfl) (by decide)) ce.k) (fun i hi env' C s ce x t F' => test_nil) (fun i hi _ env' C s' ce x t' F' => ?_) (fun s3 F3 k3 => ?_) (swaps_true K.F K.l_cuts (by kernel_rfl) (by kernel_rfl))
  · intro y hy hfree
    simp only [List.mem_cons, List.not_mem_nil, or_false] at hy
    rcases hy with rfl | rfl | rfl | rfl <;> first | exact absurd hfree (by decide) | exact K.s_top
  · rw [pInts_len] at hi
    rw [nth_pInts _ _ hi] at F'
    have Xs := X2.trans x
    exact EvP.imm (ev_call (nm_global (ce.ge (K.ge X2) x) (ce.own _ _ (by kernel_rfl) (by decide)) (g_sub w.params) (by kernel_rfl)) ((fn_sub w.params).keeps Xs) (args_cons (cvt.ev ce x (by kernel_rfl) (by kernel_rfl) (by kernel_rfl)) (args_cons (F'.ev (by rfl) ce.k (ce.own _ _ (by kernel_rfl) (by decide)) (by kernel_rfl)) args_nil)) (by simp) (cl_sub_int Xs (O.mono (by omega)))) trivial
  · rw [ec] at F3
    have X3 := k3.ext hzM X2
    have cvt3 := F3.cv (x := "top") (by rfl) K.c_top
    have cvw3 := F3.cv (x := "ways") (by rfl) K.c_ways
    have et : (((List.range tPV.length).filter fun _ => true).map fun i => PV.int (ws.getD (xs3.getD i 0).toNat 0 + ws.getD (ys3.getD i 0).toNat 0 + ws.getD (zs3.getD i 0).toNat 0 - topV ws)) = pInts (tailsV ws) := rfl
    have hx : ∀ i, i < 4 → (0 ≤ xs3.getD i 0 ∧ xs3.getD i 0 < 6) ∧ (0 ≤ ys3.getD i 0 ∧ ys3.getD i 0 < 6) ∧ (0 ≤ zs3.getD i 0 ∧ zs3.getD i 0 < 6) := by decide
    have hD : ∀ i, i < tPV.length → nth tPV i = .tup [.int (xs3.getD i 0), .int (ys3.getD i 0), .int (zs3.getD i 0)] := fun i hi => by
      replace hi : i < 4 := hi
      have : i = 0 ∨ i = 1 ∨ i = 2 ∨ i = 3 := by omega
      rcases this with rfl | rfl | rfl | rfl <;> rfl
    refine sc_comp (T := 1) (n := tPV.length) (D := fun i => .tup [.int (xs3.getD i 0), .int (ys3.getD i 0), .int (zs3.getD i 0)]) (R := fun i => .int (ws.getD (xs3.getD i 0).toNat 0 + ws.getD (ys3.getD i 0).toNat 0 + ws.getD (zs3.getD i 0).toNat 0 - topV ws)) (keep := fun _ => true)
      (ρt := fun i => [("z", .int (zs3.getD i 0)), ("y", .int (ys3.getD i 0)), ("x", .int (xs3.getD i 0))]) F3 K.l_tails K.F
      ?_ (by decide +kernel) rfl (by decide +kernel) (Nat.le_refl 1) (ItP.congr (itp_tupleG O.handled (wanted4 (w := w) (A := A) (env := env) (h₁ := s3.heap) rfl rfl rfl rfl)) hD) (by show 4 ≤ 1000; omega) F3.tk
      (fun i hi env' C ce => asp_tup3 O.handled (ce.own _ _ (by kernel_rfl) (by decide)) (ce.own _ _ (by kernel_rfl) (by decide)) (ce.own _ _ (by kernel_rfl) (by decide)) ce.k) (fun i hi env' C s ce x t F' => test_nil) (fun i hi _ env' C s' ce x t' F' => ?_) (fun s4 F4 k4 => ?_) (swaps_true K.F K.l_tails (by kernel_rfl) (by kernel_rfl))
    · intro y hy hfree
      simp only [List.mem_cons, List.not_mem_nil, or_false] at hy
      rcases hy with rfl | rfl | rfl | rfl | rfl | rfl | rfl | rfl <;> first | exact absurd hfree (by decide) | exact K.s_top | exact K.s_ways
    · replace hi : i < 4 := hi
      obtain ⟨⟨x0, x1⟩, ⟨y0, y1⟩, z0, z1⟩ := hx i hi
      generalize xs3.getD i 0 = xi at *
      generalize ys3.getD i 0 = yi at *
      generalize zs3.getD i 0 = zi at *
      have Xs := X3.trans x
      have Gs := ce.ge (K.ge X3) x
      have ewx : ∀ {p : Pos}, EvP w A env' s'.heap (.Name "ways" p) (.list (pInts ws)) := cvw3.ev ce x (by kernel_rfl) (by kernel_rfl) (by kernel_rfl)
      exact EvP.imm (ev_call (nm_global Gs (ce.own _ _ (by kernel_rfl) (by decide)) (g_sub w.params) (by kernel_rfl)) ((fn_sub w.params).keeps Xs) (args_cons
        (ev_call (nm_global Gs (ce.own _ _ (by kernel_rfl) (by decide)) (g_add w.params) (by kernel_rfl)) ((fn_add w.params).keeps Xs) (args_cons
          (ev_call (nm_global Gs (ce.own _ _ (by kernel_rfl) (by decide)) (g_add w.params) (by kernel_rfl)) ((fn_add w.params).keeps Xs) (args_cons (ev_item_list ewx (F'.ev (by rfl) ce.k (ce.own _ _ (by kernel_rfl) (by decide)) (by kernel_rfl)) x0 (by omega) (pInts_get ws _ (by omega))) (args_cons (ev_item_list ewx (F'.ev (by rfl) ce.k (ce.own _ _ (by kernel_rfl) (by decide)) (by kernel_rfl)) y0 (by omega) (pInts_get ws _ (by omega))) args_nil)) (by simp) (cl_add_int Xs (O.mono (by omega))))
          (args_cons (ev_item_list ewx (F'.ev (by rfl) ce.k (ce.own _ _ (by kernel_rfl) (by decide)) (by kernel_rfl)) z0 (by omega) (pInts_get ws _ (by omega))) args_nil)) (by simp) (cl_add_int Xs (O.mono (by omega))))
        (args_cons (cvt3.ev ce x (by kernel_rfl) (by kernel_rfl) (by kernel_rfl)) args_nil)) (by simp) (cl_sub_int Xs (O.mono (by omega)))) trivial
    · rw [et] at F4
      exact sq_eq (ss' := List.drop 20 (bodyOf 23)) (by rfl) (hq s4 (B.km (k1.trans (k2.trans (k3.trans k4)))) (k4.ext hzM X3) (F4.sub ⟨by rfl, by rfl, by rfl, trivial⟩))
end T55

end
section
open PySem PySem.W PyProof.Rows PySem.Calls
namespace T55
set_option maxRecDepth 100000
set_option linter.unusedVariables false
variable {w : World} {A : Around} {env : Env} {h₁ : Heap} {s : Shared} {M : List Addr} {ρ : List (Str × PV)} {E : Value → Shared → Prop} {Q : Flow → Shared → Prop}
theorem sc_callT {x : Str} {p pos : Pos} {e : Expr} {rest : List Stmt} {l : List Int} (hM : ∀ b ∈ M, b = env.locals ∨ ∃ x, env.cells.lookup x = some b) (F : FC env M ρ s) (h : ∀ E, wpAny (model PW w) A (eval e env) (fun v s' => (∃ T, T ≤ s'.toks ∧ Rep s'.heap (.list (ltL l T)) v) ∧ Kp s s') E s) (hl : Kl env x) (hk : env.scope.kind = .function)
    (hq : ∀ s' T, 1 ≤ T → T ≤ s'.toks → FC env M ((x, .list (ltL l T)) :: ρ) s' → KM M s s' → Sq w A env rest Q E s')
    (hs : swapsWith e (some (.Name x p)) pos.line env = pure false := by rfl) :
    Sq w A env (.Assign [.Name x p] e pos :: rest) Q E s := by
  refine .mk (wpAny_execs_cons (wpAny_Assign_Name (wpAny_mono (h E) (fun v s' z => ?_) fun _ _ e => e) hs))
  obtain ⟨⟨T, hT, r⟩, q⟩ := z
  have F1 := F.kp q
  have r' : Rep s'.heap (.list (ltL l (max T 1))) v := by
    obtain ⟨a, vs, rfl, hl, hr⟩ := r
    exact ⟨a, vs, rfl, hl, ltL_mono (Nat.le_max_left _ _) hr⟩
  exact F1.set (F1.fit hM r') hk hl fun s'' F' k' => (hq s'' (max T 1) (Nat.le_max_right _ _) (Nat.max_le.mpr ⟨Nat.le_trans hT k'.toks, Nat.le_trans F1.tk k'.toks⟩) F' ((KM.of_kp q).trans k')).run
theorem mask_small (rows : List (List Int)) : ∀ x ∈ maskL rows 5, -5 ≤ x ∧ x ≤ 256 := fun x hx => by
  obtain ⟨p, _, hx⟩ := List.mem_flatMap.mp hx
  obtain ⟨wd, _, rfl⟩ := List.mem_map.mp hx
  unfold mbits
  have key : ∀ (f : Nat → Bool), -5 ≤ (((List.range 3).filter f).map fun k => (2 : Int) ^ k).sum ∧ (((List.range 3).filter f).map fun k => (2 : Int) ^ k).sum ≤ 256 := by
    intro f
    rw [show List.range 3 = [0, 1, 2] from rfl]
    cases h0 : f 0 <;> cases h1 : f 1 <;> cases h2 : f 2 <;> simp [h0, h1, h2]
  exact key _
noncomputable def leastV (rows : List (List Int)) : Int := min (min (cntI (maskL rows 5) 3) (cntI (maskL rows 5) 5)) (cntI (maskL rows 5) 6)
set_option maxHeartbeats 1000000 in
theorem law10 {rows : List (List Int)} {cu ta : List Int} {s0 : Shared} (B : Bs M s0 s) (h3 : rows.length = 3) (h5 : ∀ r ∈ rows, r.length = 5)
    (hcu : cu = [cntI (maskL rows 5) 3 - leastV rows, cntI (maskL rows 5) 5 - leastV rows, cntI (maskL rows 5) 6 - leastV rows])
    (hta : ta = [cntI (maskL rows 5) 1 + leastV rows, cntI (maskL rows 5) 2 + leastV rows, cntI (maskL rows 5) 4 + leastV rows, cntI (maskL rows 5) 7 + leastV rows])
    (K : KLw env M) (X : Ext (HZ w.params) s.heap) (hzM : ∀ b ∈ M, (HZ w.params).get? b = none) (O : Ok A 6)
    (F : FC env M [("tails", .list (pInts ta)), ("cuts", .list (pInts cu)), ("rows", .list (rowsPV rows))] s) :
    Sq w A env (List.drop 20 (bodyOf 23)) (fun f s' => f = .ret (.bool true) ∧ Bs M s0 s') E s := by
  conv in (List.drop 20 (bodyOf 23)) => whnf
  have hu : A.units + 64 < cLine := by have := O.units; omega
  refine sc_callT (l := maskL rows 5) K.hM F (fun E' => ev_callG (ds := [.list (rowsPV rows)]) (nm_global (K.ge X) K.g_law_masks (g_masks w.params) (by kernel_rfl)) ((fn_masks w.params).keeps X) (args_cons (F.ev (by rfl) K.F (.inl K.l_rows) (by kernel_rfl)) args_nil) (by simp) (Ext.refl _) F.tk
    (fun s₁ vs k r => wpAny_mono (cl_masks h3 h5 (X.trans k.ext) (O.mono (by omega)) (Nat.le_trans F.tk k.toks) r) (fun v s' z => ⟨z.1, k.trans z.2⟩) fun _ _ e => e)) (.inr ⟨K.c_masks, K.s_masks⟩) K.F (fun s1 T hT1 hT F1 k1 => ?_)
  have X1 := k1.ext hzM X
  have cvm := F1.cv (x := "masks") (by rfl) K.c_masks
  have ec : (((List.range 8).filter fun _ => true).map fun i : Nat => PV.int (cntI (maskL rows 5) (i : Int))) = pInts ((List.range 8).map fun i : Nat => cntI (maskL rows 5) (i : Int)) := rfl
  refine sc_comp (T := T) (n := 8) (D := fun i => .ge (i : Int) T) (R := fun i => .int (cntI (maskL rows 5) (i : Int))) (keep := fun _ => true) (ρt := fun i => [("mask", .ge (i : Int) T)]) F1 K.l_counts K.F
      ?_ (by decide +kernel) rfl (by decide +kernel) hT1 (itp_rangeT O.handled noGo_name (by omega) hT1 (fun s E k t => ev_range (K.ge X1) K.g_range ev_int (by intro _; rfl) s E k t)) (by omega) hT
      (fun i hi env' C ce => asp_name (ce.own _ _ (by kernel_rfl) (by decide)) ce.k) (fun i hi env' C s ce x t F' => test_nil) (fun i hi _ env' C s' ce x t' F' => ?_) (fun s2 F2 k2 => ?_) (swaps_true K.F K.l_counts (by kernel_rfl) (by kernel_rfl))
  · intro y hy hfree
    simp only [List.mem_cons, List.not_mem_nil, or_false] at hy
    rcases hy with rfl | rfl | rfl | rfl <;> first | exact absurd hfree (by decide) | exact K.s_masks
  · have Xs := X1.trans x
    exact EvT.weak (EvP.imm (ev_call (nm_global (ce.ge (K.ge X1) x) (ce.own _ _ (by kernel_rfl) (by decide)) (g_count w.params) (by kernel_rfl)) ((fn_count w.params).keeps Xs) (args_cons (cvm.ev ce x (by kernel_rfl) (by kernel_rfl) (by kernel_rfl)) (args_cons (F'.ev (by rfl) ce.k (ce.own _ _ (by kernel_rfl) (by decide)) (by kernel_rfl)) args_nil)) (by simp) (cl_count (by rw [maskL_len]; omega) (mask_small rows) O.handled Xs (O.mono (by omega)))) trivial) hT1
  · rw [ec] at F2
    have X2 := k2.ext hzM X1
    have eco : ∀ {ρ : List (Str × PV)} {s : Shared} {p1 p2 : Pos} {n : Nat} {k : Nat} {p3 : Pos}, n < 8 → ρ.lookup ("counts" : Str) = some (.list (pInts ((List.range 8).map fun i : Nat => cntI (maskL rows 5) (i : Int)))) → FC env M ρ s → EvP w A env s.heap (.Subscript (.Name "counts" p1) (.Constant (.int (n : Int)) k p2) p3) (.int (cntI (maskL rows 5) (n : Int))) := fun {ρ s p1 p2 n k p3} hn h F =>
      ev_item_list (F.ev h K.F (.inl K.l_counts) (by kernel_rfl)) ev_int (by omega) (by omega) (by rw [show ((n : Int)).toNat = n by omega]; simp [pInts, hn])
    refine sc_assign (d := .int (leastV rows)) (T := 1) F2 (EvP.imm (ev_call (nm_builtin (K.ge X2) K.g_min (b_min w.params) (by kernel_rfl)) (keeps_val fun a => by simp) (args_cons (eco (n := 3) (by omega) (by rfl) F2) (args_cons (eco (n := 5) (by omega) (by rfl) F2) (args_cons (eco (n := 6) (by omega) (by rfl) F2) args_nil))) (by simp) (cl_min3 O.handled)) trivial) F2.tk (.inl K.l_least) K.F (fun s3 F3 k3 => ?_)
    have ele : ∀ {ρ : List (Str × PV)} {s : Shared} {p : Pos}, ρ.lookup ("least" : Str) = some (.int (leastV rows)) → FC env M ρ s → EvP w A env s.heap (.Name "least" p) (.int (leastV rows)) := fun h F => F.ev h K.F (.inl K.l_least) (by kernel_rfl)
    refine sq_if (b := !flatEqs (pInts cu) (pInts [cntI (maskL rows 5) 3 - leastV rows, cntI (maskL rows 5) 5 - leastV rows, cntI (maskL rows 5) 6 - leastV rows])) (ts_cmp (F3.ev (by rfl) K.F (.inl K.l_cuts) (by kernel_rfl)) (EvF.ev (ev_listF (args_cons (ev_bin (eco (n := 3) (by omega) (by rfl) F3) (ele (by rfl) F3) op_sub_int) (args_cons (ev_bin (eco (n := 5) (by omega) (by rfl) F3) (ele (by rfl) F3) op_sub_int) (args_cons (ev_bin (eco (n := 6) (by omega) (by rfl) F3) (ele (by rfl) F3) op_sub_int) args_nil))) (imm_ints [_, _, _]) (by rw [sizeLine_eq]; show 3 ≤ 16777216; decide))) (cm_ne_list hu (flat_ints _) (flat_ints [cntI (maskL rows 5) 3 - leastV rows, cntI (maskL rows 5) 5 - leastV rows, cntI (maskL rows 5) 6 - leastV rows]))) F3.tk (fun h s4 k4 => ?_) (fun h s4 k4 => sq_nil ?_)
    · rw [flatEqs_ints, hcu] at h
      simp at h
    · have F4 := F3.kp k4
      refine sq_ret (d := .bool (flatEqs (pInts ta) (pInts [cntI (maskL rows 5) 1 + leastV rows, cntI (maskL rows 5) 2 + leastV rows, cntI (maskL rows 5) 4 + leastV rows, cntI (maskL rows 5) 7 + leastV rows]))) (ev_cmp (F4.ev (by rfl) K.F (.inl K.l_tails) (by kernel_rfl)) (EvF.ev (ev_listF (args_cons (ev_bin (eco (n := 1) (by omega) (by rfl) F4) (ele (by rfl) F4) op_add_int) (args_cons (ev_bin (eco (n := 2) (by omega) (by rfl) F4) (ele (by rfl) F4) op_add_int) (args_cons (ev_bin (eco (n := 4) (by omega) (by rfl) F4) (ele (by rfl) F4) op_add_int) (args_cons (ev_bin (eco (n := 7) (by omega) (by rfl) F4) (ele (by rfl) F4) op_add_int) args_nil)))) (imm_ints [_, _, _, _]) (by rw [sizeLine_eq]; show 4 ≤ 16777216; decide))) (cm_eq_list hu (flat_ints _) (flat_ints [cntI (maskL rows 5) 1 + leastV rows, cntI (maskL rows 5) 2 + leastV rows, cntI (maskL rows 5) 4 + leastV rows, cntI (maskL rows 5) 7 + leastV rows]))) F4.tk fun v s5 r q => ?_
      rw [flatEqs_ints, hta] at r
      simp only [beq_self_eq_true] at r
      simp only [Rep] at r
      exact ⟨by rw [r], (((B.km (k1.trans (k2.trans k3))).kp k4).kp q)⟩
end T55

end
section
open PySem PySem.W PyProof.Rows PySem.Calls
namespace T55
set_option maxRecDepth 100000
set_option linter.unusedVariables false
variable {w : World} {A : Around} {env : Env} {h₁ : Heap} {s : Shared} {M : List Addr} {ρ : List (Str × PV)} {E : Value → Shared → Prop} {Q : Flow → Shared → Prop}
noncomputable def nmL (n : Int) (t lo : Int) : List Nat := chs (digs n) (hds t) lo
/-- what the plain law says of four numbers -/
structure Facts (n0 n1 n2 t lo : Int) : Prop where
  len : ∀ n ∈ [n0, n1, n2], 1 ≤ (tyL n t lo).length ∧ (tyL n t lo).length ≤ 40
  ok : ∀ n ∈ [n0, n1, n2], ∀ c ∈ tyL n t lo, c < 0x110000
  nm : ∀ n ∈ [n0, n1, n2], (tyL n t lo).filter nb = nmL n t lo
  pl : ∀ n ∈ [n0, n1, n2], ((nmL n t lo).map mapcL).flatten = wordL lo
  lowT : ∀ n ∈ [n0, n1, n2], ∀ c ∈ tyL n t lo, (Txt.lower (tx [c])).length ≤ 1000
  lowN : ∀ n ∈ [n0, n1, n2], ∀ c ∈ nmL n t lo, (Txt.lower (tx [c])).length ≤ 1000
  lowW : ∀ c ∈ wordL lo, (Txt.lower (tx [c])).length ≤ 1000
  dear : ∀ n ∈ [n0, n1, n2], lev (tyL n t lo) (wordL lo) 14 = dearV n
  cuts : cutsV (wsL (nmL n0 t lo) (nmL n1 t lo) (nmL n2 t lo) (wordL lo)) = [cntI (maskL [digs n0, digs n1, digs n2] 5) 3 - leastV [digs n0, digs n1, digs n2], cntI (maskL [digs n0, digs n1, digs n2] 5) 5 - leastV [digs n0, digs n1, digs n2], cntI (maskL [digs n0, digs n1, digs n2] 5) 6 - leastV [digs n0, digs n1, digs n2]]
  tails : tailsV (wsL (nmL n0 t lo) (nmL n1 t lo) (nmL n2 t lo) (wordL lo)) = [cntI (maskL [digs n0, digs n1, digs n2] 5) 1 + leastV [digs n0, digs n1, digs n2], cntI (maskL [digs n0, digs n1, digs n2] 5) 2 + leastV [digs n0, digs n1, digs n2], cntI (maskL [digs n0, digs n1, digs n2] 5) 4 + leastV [digs n0, digs n1, digs n2], cntI (maskL [digs n0, digs n1, digs n2] 5) 7 + leastV [digs n0, digs n1, digs n2]]
theorem all3 {α : Type} {P : α → Prop} {a b c : α} (h : ∀ n ∈ [a, b, c], P n) : P a ∧ P b ∧ P c := ⟨h a (by simp), h b (by simp), h c (by simp)⟩
theorem of3 {α β : Type} {P : β → Prop} {f : α → β} {a b c : α} (h : ∀ n ∈ [a, b, c], P (f n)) : ∀ T ∈ [f a, f b, f c], P T := fun T hT => by
  simp only [List.mem_cons, List.not_mem_nil, or_false] at hT
  rcases hT with rfl | rfl | rfl
  · exact h a (by simp)
  · exact h b (by simp)
  · exact h c (by simp)
theorem of4 {α β : Type} {P : β → Prop} {f : α → β} {a b c : α} {d : β} (h : ∀ n ∈ [a, b, c], P (f n)) (hd : P d) : ∀ T ∈ [f a, f b, f c, d], P T := fun T hT => by
  simp only [List.mem_cons, List.not_mem_nil, or_false] at hT
  rcases hT with rfl | rfl | rfl | rfl
  · exact h a (by simp)
  · exact h b (by simp)
  · exact h c (by simp)
  · exact hd
theorem nm_len (n t lo : Int) : (nmL n t lo).length = 5 := by simp [nmL, chs, digs_len]
theorem law_rest {n0 n1 n2 n3 t lo : Int} {s0 : Shared} (B : Bs M s0 s) (hn : 0 ≤ n0 ∧ 0 ≤ n1 ∧ 0 ≤ n2) (ht : 0 ≤ t ∧ t < 9) (hlo : 0 ≤ lo ∧ lo ≤ 1000) (fa : Facts n0 n1 n2 t lo) (K : KLw env M) (X : Ext (HZ w.params) s.heap) (hzM : ∀ b ∈ M, (HZ w.params).get? b = none) (O : Ok A 6)
    (F : FC env M [("heads", .tup (pInts (hds t))), ("low", .int lo), ("numbers", .list (pInts [n0, n1, n2, n3]))] s) :
    Sq w A env (List.drop 5 (bodyOf 23)) (fun f s' => f = .ret (.bool true) ∧ Bs M s0 s') E s := by
  have O2 : Ok A 2 := O.mono (by omega)
  obtain ⟨l0, l1, l2⟩ := all3 fa.len
  obtain ⟨m0, m1, m2⟩ := all3 fa.nm
  obtain ⟨d0, d1, d2⟩ := all3 fa.dear
  refine law3 B hn ht hlo K X hzM O2 F fun s1 B1 X1 F1 => ?_
  refine law4 B1 l0 l1 l2 K X1 hzM O2 F1 fun s2 B2 X2 F2 => ?_
  refine law5 B2 (of3 (f := fun n => tyL n t lo) fun n hn => by have := (fa.len n hn).2; omega) m0 m1 m2 (of3 (f := fun n => nmL n t lo) fa.pl) (by rw [word_len]; omega) (of3 (f := fun n => nmL n t lo) fa.lowN) K X2 hzM O2 F2 fun s3 B3 X3 F3 => ?_
  refine law6 B3 hlo (of3 (f := fun n => tyL n t lo) fa.ok) K X3 hzM O F3 (by rfl) (by rfl) (by rfl) fun s4 B4 X4 F4 => ?_
  refine law7 B4 (of3 (f := fun n => tyL n t lo) fun n hn => (fa.len n hn).2) (by rw [word_len]; omega) (of4 (f := fun n => tyL n t lo) fa.lowT fa.lowW) d0 d1 d2 K X4 hzM O (F4.sub ⟨by rfl, by rfl, by rfl, by rfl, by rfl, trivial⟩) fun s5 B5 X5 F5 => ?_
  refine law8 B5 (of4 (f := fun n => nmL n t lo) (fun n hn => by rw [nm_len]; omega) (by rw [word_len]; omega)) (of4 (f := fun n => nmL n t lo) fa.lowN fa.lowW) K X5 hzM O F5 fun s6 B6 X6 F6 => ?_
  refine law9 (B := B6) (d := .list (rowsPV [digs n0, digs n1, digs n2])) rfl K X6 hzM O (F6.sub ⟨by rfl, by rfl, trivial⟩) fun s7 B7 X7 F7 => ?_
  exact law10 B7 rfl (fun r hr => by
    simp only [List.mem_cons, List.not_mem_nil, or_false] at hr
    rcases hr with rfl | rfl | rfl <;> exact digs_len _) fa.cuts fa.tails K X7 hzM O F7
theorem cl_law {sc : List Int} {vs : List Value} (FA : ∀ n0 n1 n2 n3 : Int, 0 ≤ n0 → 0 ≤ n1 → 0 ≤ n2 → 0 ≤ n3 → Facts n0 n1 n2 (Int.fmod (Int.fdiv n3 22) 9) (Int.fmod n3 22)) (hsc : sc.length ≤ 63) (X : Ext (HZ w.params) s.heap) (O : Ok A 7) (t : 1 ≤ s.toks) (r : RepL s.heap [.list (pInts sc)] vs) :
    wpAny (model PW w) A (call (.ref 149) vs) (fun v s' => v = .bool true ∧ Bs [] s s') E s := by
  refine call_defC (fn_law w.params) X O (body := bodyOf 23) (names := ["script"]) (ds := [.list (pInts sc)]) (by kernel_rfl) (by decide) rfl (fun vs h => by obtain ⟨u, rfl⟩ := vlen1 h; kernel_rfl) (by kernel_rfl)
    (fun L x hx => ?_) (by kernel_rfl) (by kernel_rfl) (by kernel_rfl) t r fun L A' s' E' O' kp newM F => ?_
  · simp only [List.mem_cons, List.not_mem_nil, or_false] at hx
    subst hx
    exact .inl (by kernel_rfl)
  · have X' := X.trans kp.ext
    have K := klw w.params L
    have hzM : ∀ b ∈ L :: (callEnvC (fdOf (oG149 w.params)) L 149).cells.map (·.2), (HZ w.params).get? b = none := fun b hb => Nw.of X (newM b hb)
    have newM' := newM
    generalize callEnvC (fdOf (oG149 w.params)) L 149 = env at *
    generalize L :: env.cells.map (·.2) = M at *
    have nn := nmK_nonneg sc
    have b0 := Int.fmod_nonneg_of_pos (Int.fdiv (nmK (csL sc) 3) 22) (show (0 : Int) < 9 by decide)
    have b1 := Int.fmod_lt_of_pos (Int.fdiv (nmK (csL sc) 3) 22) (show (0 : Int) < 9 by decide)
    have b2 := Int.fmod_nonneg_of_pos (nmK (csL sc) 3) (show (0 : Int) < 22 by decide)
    have b3 := Int.fmod_lt_of_pos (nmK (csL sc) 3) (show (0 : Int) < 22 by decide)
    have main : Sq w A' env (bodyOf 23) (fun f s'' => f = .ret (.bool true) ∧ Bs M s' s'') E' s' := by
      refine law1 (s0 := s') ⟨KH.refl _ _, fun h => h⟩ K hsc X' hzM (O'.mono (by omega)) F fun s1 B1 X1 F1 => ?_
      refine law2 (B := B1) (n0 := nmK (csL sc) 0) (n1 := nmK (csL sc) 1) (n2 := nmK (csL sc) 2) (n3 := nmK (csL sc) 3) K X1 hzM (O'.mono (by omega)) F1 fun s2 B2 X2 F2 => ?_
      exact law_rest B2 ⟨nn 0, nn 1, nn 2⟩ ⟨b0, b1⟩ ⟨b2, by omega⟩ (FA _ _ _ _ (nn 0) (nn 1) (nn 2) (nn 3)) K X2 hzM O' F2
    refine .mk (wpAny_mono main.run (fun f s'' z => ?_) fun _ _ e => e)
    obtain ⟨rfl, k, hb⟩ := z
    refine ⟨rfl, ?_, fun h => hb (by obtain ⟨_, _, rfl, _⟩ := kp; exact h)⟩
    obtain ⟨h1, t1, rfl, e1, l1⟩ := kp
    obtain ⟨h2, t2, g2, rfl, e2, l2⟩ := k
    exact ⟨h2, t2, g2, rfl, fun b o _ e => e2 b o (fun hm => by rw [newM' b hm] at e; cases e) (e1 b o e), Nat.le_trans l1 l2⟩
end T55

end
section
open PySem PySem.W PyProof.Rows PySem.Calls
namespace T55
set_option maxRecDepth 100000
set_option linter.unusedVariables false
theorem low_a : ∀ k, k < 26 → Txt.lower (tx [97 + k]) = tx [97 + k] := by decide +kernel
theorem low_A : ∀ k, k < 26 → Txt.lower (tx [65 + k]) = tx [97 + k] := by decide +kernel
end T55

end
section
open PySem PySem.W PyProof.Rows PySem.Calls
namespace T55
set_option maxRecDepth 100000
set_option linter.unusedVariables false
-- a range that no row of the table meets
noncomputable def misses (lo hi : Nat) : List (Nat × Nat × Nat) → Bool
  | [] => true
  | e :: l => cond (Nat.ble (e.1 + 0) hi) (cond (Nat.ble lo e.2.1) false (misses lo hi l)) (misses lo hi l)
theorem shifted_miss {lo hi c : Nat} (h1 : lo ≤ c) (h2 : c ≤ hi) : ∀ {l : List (Nat × Nat × Nat)}, misses lo hi l = true → Unicode.shifted l c = none
  | [], _ => rfl
  | (a, b, t) :: l, h => by
    simp only [misses] at h
    unfold Unicode.shifted
    have n : ∀ {x y : Nat}, Nat.ble x y = false → ¬ x ≤ y := fun e k => by rw [Nat.ble_eq_true_of_le k] at e; exact absurd e (by decide)
    cases e1 : Nat.ble (a + 0) hi with
    | false =>
      rw [e1] at h
      have : ¬ a + 0 ≤ hi := n e1
      rw [if_pos (by omega)]
    | true =>
      rw [e1] at h
      cases e2 : Nat.ble lo b with
      | true => rw [e2] at h; exact absurd (show false = true from h) (by decide)
      | false =>
        rw [e2] at h
        have : ¬ lo ≤ b := n e2
        split
        · rfl
        rw [if_neg (by omega)]
        exact shifted_miss h1 h2 h
theorem math_miss : misses 119808 120500 UnicodeData.oneLower = true := by kernel_rfl
theorem lower_math {c : Nat} (h1 : 119808 ≤ c) (h2 : c ≤ 120500) : Txt.lower (tx [c]) = tx [c] := by
  have e : Unicode.lowerOf c = [c] := by
    unfold Unicode.lowerOf Unicode.image
    have : UnicodeData.severalLower.lookup c = none := by
      have : (c == 304) = false := by rw [beq_eq_false_iff_ne]; omega
      show List.lookup c [(304, [105, 775])] = none
      rw [List.lookup_cons, this]; rfl
    rw [this, shifted_miss h1 h2 math_miss]; rfl
  have e2 : Unicode.lowerAt #[c] 0 = [c] := by
    show (if c == 0x3A3 && Unicode.endsWord #[c] 0 then [0x3C2] else Unicode.lowerOf c) = [c]
    have : (c == 0x3A3) = false := by rw [beq_eq_false_iff_ne]; omega
    rw [this, Bool.false_and, e]; rfl
  unfold Txt.lower
  show (⟨placed (tx [c]) fun i _ => Unicode.lowerAt #[c] i⟩ : Str) = tx [c]
  unfold placed
  simp [tx, e2]
theorem alph_range : ∀ j, j < 10 → 119808 ≤ (alph.getD j 0).toNat ∧ (alph.getD j 0).toNat + 26 ≤ 120500 := by decide +kernel
theorem low_m : ∀ j, j < 10 → ∀ k, k < 26 → Txt.lower (tx [(alph.getD j 0).toNat + k]) = tx [(alph.getD j 0).toNat + k] := fun j hj k hk => by
  obtain ⟨h1, h2⟩ := alph_range j hj
  exact lower_math (by omega) (by omega)
end T55

end
section
open PySem PySem.W PyProof.Rows PySem.Calls
namespace T55
set_option maxRecDepth 100000
set_option linter.unusedVariables false
-- the keys of the table, as numbers, grow
noncomputable def keysN : List Nat := b3ds.map fun d => d.1.toNat
noncomputable def grows : Nat → List Nat → Bool
  | _, [] => true
  | a, b :: l => cond (Nat.ble (a + 1) b) (grows b l) false
theorem keys_grow : grows 122 keysN = true := by kernel_rfl
theorem grows_lt : ∀ {a : Nat} {l : List Nat}, grows a l = true → ∀ x ∈ l, a < x
  | a, [], _, x, h => by simp at h
  | a, b :: l, e, x, h => by
    simp only [grows] at e
    cases e1 : Nat.ble (a + 1) b with
    | false => rw [e1] at e; exact absurd (show false = true from e) (by decide)
    | true =>
      rw [e1] at e
      have k : a + 1 ≤ b := Nat.le_of_ble_eq_true e1
      rcases List.mem_cons.mp h with rfl | h
      · omega
      · have := grows_lt (show grows b l = true from e) x h
        omega
theorem b3_small (c : Nat) (h : c ≤ 122) : b3val (c : Int) = none := by
  unfold b3val
  have : b3ds.find? (fun d => d.1 == (c : Int)) = none := by
    rw [List.find?_eq_none]
    intro d hd e
    have e : d.1 = (c : Int) := by simpa using e
    have h1 : d.1.toNat ∈ keysN := List.mem_map.mpr ⟨d, hd, rfl⟩
    have h2 := grows_lt keys_grow _ h1
    rw [e] at h2
    simp at h2
    omega
  rw [this]; rfl
theorem b3_a : ∀ k, k < 26 → b3val ((97 + k : Nat) : Int) = none := fun k h => b3_small _ (by omega)
theorem b3_A : ∀ k, k < 26 → b3val ((65 + k : Nat) : Int) = none := fun k h => b3_small _ (by omega)
-- and so a row of it is what its key gives
theorem find_row : ∀ {l : List (Int × Str)} {a : Nat} {d : Int × Str}, grows a (l.map fun d => d.1.toNat) = true → d ∈ l → 0 < d.1 → (l.find? fun e => e.1 == d.1) = some d
  | [], _, _, _, h, _ => by simp at h
  | e :: l, a, d, g, h, p => by
    simp only [List.map_cons, grows] at g
    cases e1 : Nat.ble (a + 1) e.1.toNat with
    | false => rw [e1] at g; exact absurd (show false = true from g) (by decide)
    | true =>
      rw [e1] at g
      rcases List.mem_cons.mp h with rfl | h
      · simp
      · have h2 := grows_lt (show grows e.1.toNat (l.map fun d => d.1.toNat) = true from g) _ (List.mem_map.mpr ⟨d, h, rfl⟩)
        have : (e.1 == d.1) = false := by rw [beq_eq_false_iff_ne]; intro c; rw [c] at h2; omega
        rw [List.find?_cons, this]
        exact find_row g h p
theorem b3_row {d : Int × Str} (h : d ∈ b3ds) (p : 0 < d.1) : b3val d.1 = some d.2 := by
  unfold b3val
  rw [find_row keys_grow h p]; rfl
end T55

end
section
open PySem PySem.W PyProof.Rows PySem.Calls
namespace T55
set_option maxRecDepth 100000
set_option linter.unusedVariables false
-- the rows wanted, in the table's order: one walk through it
noncomputable def want (j : Nat) : List (Nat × Nat) := (List.range 26).map fun k => ((alph.getD j 0).toNat + k, 97 + k)
noncomputable def wants : List (Nat × Nat) := want 0 ++ want 1 ++ want 2 ++ want 3 ++ want 4 ++ want 5 ++ want 6 ++ want 7 ++ want 8 ++ want 9
noncomputable def rowOf (d : Int × Str) : Nat × Nat × Bool := match d.1, d.2.cps.toList with
  | .ofNat k, [c] => (k, c, true)
  | _, _ => (0, 0, false)
noncomputable def inOrder : List (Nat × Nat) → List (Int × Str) → Bool
  | [], _ => true
  | _ :: _, [] => false
  | w :: ws, d :: ds => cond (Nat.beq (rowOf d).1 w.1) (cond (rowOf d).2.2 (cond (Nat.beq (rowOf d).2.1 w.2) (inOrder ws ds) false) false) (inOrder (w :: ws) ds)
theorem row_eq {d : Int × Str} {w : Nat × Nat} (h1 : Nat.beq (rowOf d).1 w.1 = true) (h2 : Nat.beq (rowOf d).2.1 w.2 = true) (h3 : (rowOf d).2.2 = true) : d = ((w.1 : Int), tx [w.2]) := by
  unfold rowOf at h1 h2 h3
  split at h3
  · rename_i k' c' e e'
    rw [e, e'] at h1 h2
    have h1 : k' = w.1 := Nat.eq_of_beq_eq_true h1
    have h2 : c' = w.2 := Nat.eq_of_beq_eq_true h2
    have h4 : d.2 = tx [c'] := by
      obtain ⟨i, ⟨⟨l⟩⟩⟩ := d
      have e' : l = [c'] := e'
      rw [e']; rfl
    rw [← h1, ← h2, ← h4, show ((k' : Nat) : Int) = d.1 from e.symm]
  · exact absurd h3 (by decide)
theorem inOrder_mem : ∀ {ws : List (Nat × Nat)} {ds : List (Int × Str)}, inOrder ws ds = true → ∀ w ∈ ws, ((w.1 : Int), tx [w.2]) ∈ ds
  | [], _, _, w, h => by simp at h
  | _ :: _, [], e, w, h => by simp [inOrder] at e
  | v :: ws, d :: ds, e, w, h => by
    unfold inOrder at e
    cases e1 : Nat.beq (rowOf d).1 v.1 with
    | false => rw [e1] at e; exact List.mem_cons_of_mem _ (inOrder_mem (show inOrder (v :: ws) ds = true from e) w h)
    | true =>
      rw [e1] at e
      cases e2 : (rowOf d).2.2 with
      | false => rw [e2] at e; exact absurd (show false = true from e) (by decide)
      | true =>
        rw [e2] at e
        cases e3 : Nat.beq (rowOf d).2.1 v.2 with
        | false => rw [e3] at e; exact absurd (show false = true from e) (by decide)
        | true =>
          rw [e3] at e
          rcases List.mem_cons.mp h with rfl | h
          · rw [← row_eq e1 e3 e2]; exact List.mem_cons_self
          · exact List.mem_cons_of_mem _ (inOrder_mem (show inOrder ws ds = true from e) w h)
theorem wants_in : inOrder wants b3ds = true := by kernel_rfl
theorem want_mem {j k : Nat} (hk : k < 26) : ((alph.getD j 0).toNat + k, 97 + k) ∈ want j := List.mem_map.mpr ⟨k, List.mem_range.mpr hk, rfl⟩
theorem wants_mem : ∀ j, j < 10 → ∀ x ∈ want j, x ∈ wants := fun j hj x h => by
  unfold wants
  simp only [List.mem_append]
  rcases j with _ | _ | _ | _ | _ | _ | _ | _ | _ | _ | j
  all_goals first | simp [h] | omega
theorem alph_pos : ∀ j, j < 10 → 0 < (alph.getD j 0).toNat := by decide
theorem b3_m : ∀ j, j < 10 → ∀ k, k < 26 → b3val (((alph.getD j 0).toNat + k : Nat) : Int) = some (tx [97 + k]) := fun j hj k hk => by
  have := b3_row (inOrder_mem wants_in _ (wants_mem j hj _ (want_mem hk))) (by have := alph_pos j hj; dsimp only; omega)
  exact this
end T55

end
section
open PySem PySem.W PyProof.Rows PySem.Calls
namespace T55
set_option maxRecDepth 100000
theorem gone_mem : ∀ r, r < 27 → (if r < 11 then fewL.getD r 0 else 65013 + (r : Int)) ∈ b1L := by decide
end T55

end
section
open PySem PySem.W PyProof.Rows PySem.Calls
namespace T55
set_option linter.unusedVariables false
noncomputable def eqG (q : Nat → Nat → Bool) : List Nat → List Nat → Bool
  | [], [] => true
  | x :: xs, y :: ys => q x y && eqG q xs ys
  | _, _ => false
noncomputable def lpreG (q : Nat → Nat → Bool) : List Nat → List Nat → Nat
  | x :: xs, y :: ys => if q x y then lpreG q xs ys + 1 else 0
  | _, _ => 0
noncomputable def linG (m : Int) (i : Nat) (t : LS) : LS :=
  ⟨t.row.set i (min (min t.res (t.row.getD i 0) + 2) (t.dist + m)), t.row.getD i 0, min (min t.res (t.row.getD i 0) + 2) (t.dist + m), if min (min t.res (t.row.getD i 0) + 2) (t.dist + m) < t.mn then min (min t.res (t.row.getD i 0) + 2) (t.dist + m) else t.mn⟩
noncomputable def linL (φ : Nat → Int) : List Nat → Nat → LS → LS
  | [], _, t => t
  | x :: xs, i, t => linL φ xs (i + 1) (linG (φ x) i t)
noncomputable def lallG (m : Nat → Nat → Int) (a : List Nat) (mc : Int) : List Nat → Nat → List Int → Int → Int
  | [], _, _, res => res
  | y :: ys, j, row, _ =>
    let t := linL (fun x => m x y) a 0 ⟨row, 2 * j, 2 * j, 9223372036854775807⟩
    if t.mn > mc then mc + 1 else lallG m a mc ys (j + 1) t.row t.res
noncomputable def lfinG (m : Nat → Nat → Int) (a b : List Nat) (mc : Int) : Int := if ((b.length : Int) - a.length) * 2 > mc then mc + 1 else lallG m a mc b 0 (lrow a.length) 0
noncomputable def lmainG (m : Nat → Nat → Int) (a b : List Nat) (mc : Int) : Int := if b.length < a.length then lfinG (fun y x => m x y) b a mc else lfinG m a b mc
noncomputable def lendG (m : Nat → Nat → Int) (a b : List Nat) (mc : Int) : Int :=
  if a.isEmpty || b.isEmpty then 2 * (a.length + b.length : Nat) else
  if a.length > 40 ∨ b.length > 40 then mc + 1 else lmainG m a b mc
noncomputable def lmidG (q : Nat → Nat → Bool) (m : Nat → Nat → Int) (a b : List Nat) (mc : Int) : Int :=
  let k := lpreG q a.reverse b.reverse
  lendG m (a.take (a.length - k)) (b.take (b.length - k)) mc
noncomputable def levG (q : Nat → Nat → Bool) (m : Nat → Nat → Int) (a b : List Nat) (mc : Int) : Int :=
  if eqG q a b then 0 else
  let k := lpreG q a b
  lmidG q m (a.drop k) (b.drop k) mc
theorem eqG_map {q q' : Nat → Nat → Bool} {f g : Nat → Nat} : ∀ {a b : List Nat}, (∀ x ∈ a, ∀ y ∈ b, q (f x) (g y) = q' x y) → eqG q (a.map f) (b.map g) = eqG q' a b
  | [], [], _ => rfl
  | [], _ :: _, _ => rfl
  | _ :: _, [], _ => rfl
  | x :: xs, y :: ys, h => by
    simp only [List.map_cons, eqG]
    rw [h x List.mem_cons_self y List.mem_cons_self, eqG_map fun u hu v hv => h u (List.mem_cons_of_mem _ hu) v (List.mem_cons_of_mem _ hv)]
theorem lpreG_map {q q' : Nat → Nat → Bool} {f g : Nat → Nat} : ∀ {a b : List Nat}, (∀ x ∈ a, ∀ y ∈ b, q (f x) (g y) = q' x y) → lpreG q (a.map f) (b.map g) = lpreG q' a b
  | [], [], _ => rfl
  | [], _ :: _, _ => rfl
  | _ :: _, [], _ => rfl
  | x :: xs, y :: ys, h => by
    simp only [List.map_cons, lpreG]
    rw [h x List.mem_cons_self y List.mem_cons_self, lpreG_map fun u hu v hv => h u (List.mem_cons_of_mem _ hu) v (List.mem_cons_of_mem _ hv)]
theorem linL_map {φ φ' : Nat → Int} {f : Nat → Nat} : ∀ {a : List Nat} (i : Nat) (t : LS), (∀ x ∈ a, φ (f x) = φ' x) → linL φ (a.map f) i t = linL φ' a i t
  | [], _, _, _ => rfl
  | x :: xs, i, t, h => by
    simp only [List.map_cons, linL]
    rw [h x List.mem_cons_self, linL_map (i + 1) _ fun u hu => h u (List.mem_cons_of_mem _ hu)]
theorem lallG_map {m m' : Nat → Nat → Int} {f g : Nat → Nat} {a : List Nat} {mc : Int} : ∀ {b : List Nat} (j : Nat) (row : List Int) (res : Int), (∀ x ∈ a, ∀ y ∈ b, m (f x) (g y) = m' x y) → lallG m (a.map f) mc (b.map g) j row res = lallG m' a mc b j row res
  | [], _, _, _, _ => rfl
  | y :: ys, j, row, res, h => by
    simp only [List.map_cons, lallG]
    rw [linL_map (φ := fun x => m x (g y)) (φ' := fun x => m' x y) 0 _ fun x hx => h x hx y List.mem_cons_self]
    rw [lallG_map (j + 1) _ _ fun x hx v hv => h x hx v (List.mem_cons_of_mem _ hv)]
theorem lfinG_map {m m' : Nat → Nat → Int} {f g : Nat → Nat} {a b : List Nat} {mc : Int} (h : ∀ x ∈ a, ∀ y ∈ b, m (f x) (g y) = m' x y) : lfinG m (a.map f) (b.map g) mc = lfinG m' a b mc := by
  unfold lfinG
  rw [lallG_map 0 _ _ h, List.length_map, List.length_map]
theorem lmainG_map {m m' : Nat → Nat → Int} {f g : Nat → Nat} {a b : List Nat} {mc : Int} (h : ∀ x ∈ a, ∀ y ∈ b, m (f x) (g y) = m' x y) : lmainG m (a.map f) (b.map g) mc = lmainG m' a b mc := by
  unfold lmainG
  rw [lfinG_map h, lfinG_map (m := fun y x => m x y) (m' := fun y x => m' x y) fun y hy x hx => h x hx y hy, List.length_map, List.length_map]
theorem lendG_map {m m' : Nat → Nat → Int} {f g : Nat → Nat} {a b : List Nat} {mc : Int} (h : ∀ x ∈ a, ∀ y ∈ b, m (f x) (g y) = m' x y) : lendG m (a.map f) (b.map g) mc = lendG m' a b mc := by
  unfold lendG
  rw [lmainG_map h, List.length_map, List.length_map, List.isEmpty_map, List.isEmpty_map]
theorem levG_map {q q' : Nat → Nat → Bool} {m m' : Nat → Nat → Int} {f g : Nat → Nat} {a b : List Nat} {mc : Int} (hq : ∀ x ∈ a, ∀ y ∈ b, q (f x) (g y) = q' x y) (hm : ∀ x ∈ a, ∀ y ∈ b, m (f x) (g y) = m' x y) :
    levG q m (a.map f) (b.map g) mc = levG q' m' a b mc := by
  unfold levG lmidG
  rw [eqG_map hq, lpreG_map hq]
  simp only [← List.map_drop, ← List.map_reverse, ← List.map_take, List.length_map]
  rw [lpreG_map (q := q) (q' := q') (f := f) (g := g) fun x hx y hy => hq x (List.mem_of_mem_drop (List.mem_reverse.mp hx)) y (List.mem_of_mem_drop (List.mem_reverse.mp hy))]
  rw [lendG_map fun x hx y hy => hm x (List.mem_of_mem_drop (List.mem_of_mem_take hx)) y (List.mem_of_mem_drop (List.mem_of_mem_take hy))]
-- the distance function in this form
theorem eqG_eq : ∀ (a b : List Nat), eqG (fun x y => decide (x = y)) a b = decide (a = b)
  | [], [] => rfl
  | [], _ :: _ => rfl
  | _ :: _, [] => rfl
  | x :: xs, y :: ys => by
    simp only [eqG, eqG_eq xs ys]
    rw [Bool.eq_iff_iff]
    simp
theorem lpreG_eq : ∀ (a b : List Nat), lpreG (fun x y => decide (x = y)) a b = lpre a b
  | [], [] => rfl
  | [], _ :: _ => rfl
  | _ :: _, [] => rfl
  | x :: xs, y :: ys => by
    simp only [lpreG, lpre, lpreG_eq xs ys, decide_eq_true_eq]
theorem linL_snoc (φ : Nat → Int) : ∀ (a : List Nat) (x : Nat) (i : Nat) (t : LS), linL φ (a ++ [x]) i t = linG (φ x) (i + a.length) (linL φ a i t)
  | [], x, i, t => rfl
  | y :: a, x, i, t => by
    rw [List.cons_append, linL, linL_snoc φ a x (i + 1), linL]
    congr 1
    simp only [List.length_cons]
    omega
theorem linN_eq (b : Nat) (a : List Nat) (t : LS) : ∀ i, i ≤ a.length → linN b a t i = linL (fun x => co b x) (a.take i) 0 t
  | 0, _ => rfl
  | i + 1, h => by
    rw [linN, linN_eq b a t i (by omega), List.take_succ_eq_append_getElem (by omega), linL_snoc]
    have e1 : (a.take i).length = i := by rw [List.length_take]; omega
    have e2 : a.getD i 0 = a[i] := by simp [List.getD_eq_getElem?_getD, show i < a.length by omega]
    rw [e1, e2, Nat.zero_add]
    rfl
theorem lall_eq (a : List Nat) (mc : Int) : ∀ (b : List Nat) (j : Nat) (row : List Int) (res : Int), lall a mc b j row res = lallG (fun x y => co y x) a mc b j row res
  | [], _, _, _ => rfl
  | y :: ys, j, row, res => by
    have e : lout a y j row = linL (fun x => co y x) a 0 ⟨row, 2 * j, 2 * j, 9223372036854775807⟩ := by
      unfold lout; rw [linN_eq y a _ a.length (Nat.le_refl _), List.take_length]
    show (if (lout a y j row).mn > mc then mc + 1 else lall a mc ys (j + 1) (lout a y j row).row (lout a y j row).res) = _
    rw [e, lall_eq a mc ys]
    rfl
theorem cost_symm (x y : Str) : cost x y = cost y x := by
  unfold cost
  have h1 : (x == y) = (y == x) := by rw [Bool.eq_iff_iff, beq_iff_eq, beq_iff_eq]; exact eq_comm
  have h2 : (Txt.lower x == Txt.lower y) = (Txt.lower y == Txt.lower x) := by rw [Bool.eq_iff_iff, beq_iff_eq, beq_iff_eq]; exact eq_comm
  rw [h1, h2]
theorem lfin_eq (a b : List Nat) (mc : Int) : lfin a b mc = lfinG (fun x y => co y x) a b mc := by
  unfold lfin lfinG
  rw [lall_eq]
theorem lmain_eq (a b : List Nat) (mc : Int) : lmain a b mc = lmainG (fun x y => co y x) a b mc := by
  rw [lmain_fin]
  unfold lmainG
  rw [lfin_eq, lfin_eq]
  have : (fun x y => co y x) = (fun y x => co y x) := by
    funext x y; exact cost_symm _ _
  rw [← this]
theorem lev_eq (a b : List Nat) (mc : Int) : lev a b mc = levG (fun x y => decide (x = y)) (fun x y => co y x) a b mc := by
  unfold levG lmidG
  rw [eqG_eq, lpreG_eq]
  by_cases h : a = b
  · rw [decide_eq_true h]
    unfold lev; rw [if_pos h]; rfl
  · rw [decide_eq_false h, lev_mid a b mc h]
    simp only [Bool.false_eq_true, if_false]
    unfold lmid lend lendG
    simp only [lpreG_eq, lmain_eq, Bool.or_eq_true, List.isEmpty_iff]
end T55

end
section
open PySem PySem.W PyProof.Rows PySem.Calls
namespace T55
set_option linter.unusedVariables false
noncomputable def qC (c : List Int) (i j : Nat) : Bool := decide (i = j ∧ c.getD i 0 = 0)
noncomputable def mC (c : List Int) (i j : Nat) : Int := if i = j then c.getD i 0 else 2
noncomputable def wd5 (k h : Nat) : List Nat := (List.range 5).take k ++ (List.replicate h 9 ++ (List.range 5).drop k)
noncomputable def c3 : List Int := [0, 1, 2]
-- the same over natural numbers, fit for the kernel
noncomputable def mn2 (a b : Nat) : Nat := cond (Nat.ble a b) a b
structure LK where
  row : List Nat
  res : Nat
  mn : Nat
noncomputable def inK (φ : Nat → Nat) : List Nat → List Nat → Nat → Nat → Nat → LK
  | x :: xs, old :: row, res, dist, mn =>
    let v := mn2 (Nat.add (mn2 res old) 2) (Nat.add dist (φ x))
    let r := inK φ xs row v old (mn2 mn v)
    ⟨v :: r.row, r.res, r.mn⟩
  | _, row, res, _, mn => ⟨row, res, mn⟩
noncomputable def allK (m : Nat → Nat → Nat) (a : List Nat) (mc : Nat) : List Nat → Nat → List Nat → Nat → Nat
  | [], _, _, res => res
  | y :: ys, j, row, _ =>
    let t := inK (fun x => m x y) a row j j 9223372036854775807
    cond (Nat.ble t.mn mc) (allK m a mc ys (Nat.add j 2) t.row t.res) (Nat.add mc 1)
noncomputable def rowK : List Nat → Nat → List Nat
  | [], _ => []
  | _ :: l, i => i :: rowK l (Nat.add i 2)
noncomputable def lenK : List Nat → Nat
  | [] => 0
  | _ :: l => Nat.add (lenK l) 1
noncomputable def finK (m : Nat → Nat → Nat) (a b : List Nat) (mc : Nat) : Nat := cond (Nat.ble (Nat.mul (Nat.sub (lenK b) (lenK a)) 2) mc) (allK m a mc b 0 (rowK a 2) 0) (Nat.add mc 1)
noncomputable def mainK (m : Nat → Nat → Nat) (a b : List Nat) (mc : Nat) : Nat := cond (Nat.ble (lenK a) (lenK b)) (finK m a b mc) (finK (fun y x => m x y) b a mc)
noncomputable def endK (m : Nat → Nat → Nat) (mc : Nat) : List Nat → List Nat → Nat
  | [], b => Nat.mul 2 (lenK b)
  | x :: a, [] => Nat.mul 2 (lenK (x :: a))
  | x :: a, y :: b => cond (Nat.ble (lenK (x :: a)) 40) (cond (Nat.ble (lenK (y :: b)) 40) (mainK m (x :: a) (y :: b) mc) (Nat.add mc 1)) (Nat.add mc 1)
-- trims: the ends that are alike
noncomputable def trimK (q : Nat → Nat → Bool) : List Nat → List Nat → List Nat × List Nat
  | x :: xs, y :: ys => cond (q x y) (trimK q xs ys) (x :: xs, y :: ys)
  | xs, ys => (xs, ys)
noncomputable def revK : List Nat → List Nat → List Nat
  | [], r => r
  | x :: l, r => revK l (x :: r)
noncomputable def levK (q : Nat → Nat → Bool) (m : Nat → Nat → Nat) (a b : List Nat) (mc : Nat) : Nat :=
  cond (eqG q a b) 0
    (let p := trimK q a b
     let r := trimK q (revK p.1 []) (revK p.2 [])
     endK m mc (revK r.1 []) (revK r.2 []))
theorem mn2_eq (a b : Nat) : mn2 a b = min a b := by
  unfold mn2
  cases e : Nat.ble a b with
  | true => have := Nat.le_of_ble_eq_true e; simp only [cond_true]; omega
  | false =>
    have : ¬ a ≤ b := fun k => by rw [Nat.ble_eq_true_of_le k] at e; exact absurd e (by decide)
    simp only [cond_false]; omega
theorem lenK_eq : ∀ l : List Nat, lenK l = l.length
  | [] => rfl
  | _ :: l => by show lenK l + 1 = _; rw [lenK_eq l, List.length_cons]
theorem revK_eq : ∀ (l r : List Nat), revK l r = l.reverse ++ r
  | [], _ => rfl
  | x :: l, r => by rw [revK, revK_eq l, List.reverse_cons, List.append_assoc]; rfl
theorem trimK_eq (q : Nat → Nat → Bool) : ∀ (a b : List Nat), trimK q a b = (a.drop (lpreG q a b), b.drop (lpreG q a b))
  | [], _ => rfl
  | _ :: _, [] => rfl
  | x :: xs, y :: ys => by
    unfold trimK lpreG
    cases e : q x y with
    | true => simp only [cond_true, if_true, trimK_eq q xs ys, List.drop_succ_cons]
    | false => simp only [cond_false, Bool.false_eq_true, if_false, List.drop_zero]
theorem inK_len (φ : Nat → Nat) : ∀ (a row : List Nat) (res dist mn : Nat), (inK φ a row res dist mn).row.length = row.length
  | [], _, _, _, _ => rfl
  | _ :: _, [], _, _, _ => rfl
  | x :: xs, old :: row, res, dist, mn => by
    show ((inK φ xs row _ _ _).row.length + 1) = _
    rw [inK_len φ xs row, List.length_cons]
noncomputable def up (l : List Nat) : List Int := l.map fun n : Nat => (n : Int)
theorem linL_K {φ : Nat → Int} {μ : Nat → Nat} (hφ : ∀ x, φ x = μ x) : ∀ (a row : List Nat) (pre : List Int) (res dist mn : Nat), row.length = a.length →
    (linL φ a pre.length ⟨pre ++ up row, dist, res, mn⟩).row = pre ++ up (inK μ a row res dist mn).row ∧ (linL φ a pre.length ⟨pre ++ up row, dist, res, mn⟩).res = (inK μ a row res dist mn).res ∧ (linL φ a pre.length ⟨pre ++ up row, dist, res, mn⟩).mn = (inK μ a row res dist mn).mn
  | [], row, pre, res, dist, mn, _ => ⟨rfl, rfl, rfl⟩
  | _ :: _, [], _, _, _, _, h => by simp at h
  | x :: xs, old :: row, pre, res, dist, mn, h => by
    have h' : row.length = xs.length := by simpa using h
    have g1 : (pre ++ up (old :: row)).getD pre.length 0 = old := by simp [up, List.getD_eq_getElem?_getD]
    have g2 : ∀ v : Int, (pre ++ up (old :: row)).set pre.length v = (pre ++ [v]) ++ up row := fun v => by simp [up]
    have ev : min (min (res : Int) (old : Int) + 2) ((dist : Int) + φ x) = ((mn2 (Nat.add (mn2 res old) 2) (Nat.add dist (μ x)) : Nat) : Int) := by
      rw [hφ, mn2_eq, mn2_eq]
      show _ = ((min (min res old + 2) (dist + μ x) : Nat) : Int)
      omega
    have em : ∀ v : Nat, (if (v : Int) < mn then (v : Int) else mn) = ((mn2 mn v : Nat) : Int) := fun v => by rw [mn2_eq]; split <;> omega
    have := linL_K hφ xs row (pre ++ [((mn2 (Nat.add (mn2 res old) 2) (Nat.add dist (μ x)) : Nat) : Int)]) (mn2 (Nat.add (mn2 res old) 2) (Nat.add dist (μ x))) old (mn2 mn (mn2 (Nat.add (mn2 res old) 2) (Nat.add dist (μ x)))) h'
    rw [List.length_append, List.length_singleton] at this
    have e : linG (φ x) pre.length ⟨pre ++ up (old :: row), dist, res, mn⟩ = ⟨(pre ++ [((mn2 (Nat.add (mn2 res old) 2) (Nat.add dist (μ x)) : Nat) : Int)]) ++ up row, (old : Int), ((mn2 (Nat.add (mn2 res old) 2) (Nat.add dist (μ x)) : Nat) : Int), ((mn2 mn (mn2 (Nat.add (mn2 res old) 2) (Nat.add dist (μ x))) : Nat) : Int)⟩ := by
      unfold linG
      dsimp only
      rw [g1, ev, g2, em]
    rw [linL, e]
    refine ⟨this.1.trans ?_, this.2.1, this.2.2⟩
    rw [List.append_assoc]; rfl
theorem allK_eq {m : Nat → Nat → Int} {μ : Nat → Nat → Nat} (hm : ∀ x y, m x y = μ x y) (a : List Nat) (mc : Nat) : ∀ (b : List Nat) (j : Nat) (row : List Nat) (res : Nat), row.length = a.length →
    lallG m a mc b j (up row) res = allK μ a mc b (2 * j) row res
  | [], _, _, _, _ => rfl
  | y :: ys, j, row, res, h => by
    have := linL_K (φ := fun x => m x y) (μ := fun x => μ x y) (fun x => hm x y) a row [] (2 * j) (2 * j) 9223372036854775807 h
    have e0 : linL (fun x => m x y) a 0 ⟨up row, 2 * (j : Int), 2 * (j : Int), 9223372036854775807⟩ = linL (fun x => m x y) a ([] : List Int).length ⟨[] ++ up row, ((2 * j : Nat) : Int), ((2 * j : Nat) : Int), ((9223372036854775807 : Nat) : Int)⟩ := by
      have : ((2 * j : Nat) : Int) = 2 * (j : Int) := by omega
      rw [this]; rfl
    obtain ⟨k1, k2, k3⟩ := this
    rw [← e0] at k1 k2 k3
    show (if (linL (fun x => m x y) a 0 ⟨up row, 2 * (j : Int), 2 * (j : Int), 9223372036854775807⟩).mn > (mc : Int) then (mc : Int) + 1 else lallG m a mc ys (j + 1) (linL (fun x => m x y) a 0 ⟨up row, 2 * (j : Int), 2 * (j : Int), 9223372036854775807⟩).row (linL (fun x => m x y) a 0 ⟨up row, 2 * (j : Int), 2 * (j : Int), 9223372036854775807⟩).res) = _
    rw [k1, k2, k3, List.nil_append]
    have hl : (inK (fun x => μ x y) a row (2 * j) (2 * j) 9223372036854775807).row.length = a.length := by rw [inK_len]; exact h
    rw [allK_eq hm a mc ys (j + 1) _ _ hl]
    show _ = ((cond (Nat.ble (inK (fun x => μ x y) a row (2 * j) (2 * j) 9223372036854775807).mn mc) (allK μ a mc ys (2 * j + 2) (inK (fun x => μ x y) a row (2 * j) (2 * j) 9223372036854775807).row (inK (fun x => μ x y) a row (2 * j) (2 * j) 9223372036854775807).res) (mc + 1) : Nat) : Int)
    generalize inK (fun x => μ x y) a row (2 * j) (2 * j) 9223372036854775807 = t
    rw [show 2 * (j + 1) = 2 * j + 2 by omega]
    cases e : Nat.ble t.mn mc with
    | true =>
      have := Nat.le_of_ble_eq_true e
      rw [if_neg (by omega)]; rfl
    | false =>
      have : ¬ t.mn ≤ mc := fun k => by rw [Nat.ble_eq_true_of_le k] at e; exact absurd e (by decide)
      rw [if_pos (by omega)]; rfl
theorem rowK_len : ∀ (l : List Nat) (i : Nat), (rowK l i).length = l.length
  | [], _ => rfl
  | _ :: l, i => by show (rowK l _).length + 1 = _; rw [rowK_len l, List.length_cons]
theorem rowK_eq : ∀ (l : List Nat) (i : Nat), up (rowK l i) = (List.range l.length).map fun k : Nat => (i : Int) + (k : Int) * 2
  | [], _ => rfl
  | x :: l, i => by
    show (i : Int) :: up (rowK l (i + 2)) = _
    rw [rowK_eq l (i + 2), List.length_cons, List.range_succ_eq_map, List.map_cons, List.map_map]
    congr 1
    apply List.map_congr_left
    intro k _
    show ((i + 2 : Nat) : Int) + _ = _
    simp only [Function.comp]
    omega
theorem finK_eq {m : Nat → Nat → Int} {μ : Nat → Nat → Nat} (hm : ∀ x y, m x y = μ x y) (a b : List Nat) (mc : Nat) (h : a.length ≤ b.length) : lfinG m a b mc = finK μ a b mc := by
  unfold lfinG finK
  rw [lenK_eq, lenK_eq]
  have e1 : lrow a.length = up (rowK a 2) := by rw [rowK_eq]; rfl
  have := allK_eq hm a mc b 0 (rowK a 2) 0 (rowK_len a 2)
  rw [e1]
  cases e : Nat.ble (Nat.mul (Nat.sub b.length a.length) 2) mc with
  | true =>
    have : (b.length - a.length) * 2 ≤ mc := Nat.le_of_ble_eq_true e
    rw [if_neg (by omega)]; assumption
  | false =>
    have : ¬ (b.length - a.length) * 2 ≤ mc := fun k => by
      have k : Nat.ble (Nat.mul (Nat.sub b.length a.length) 2) mc = true := Nat.ble_eq_true_of_le k
      rw [k] at e; exact absurd e (by decide)
    rw [if_pos (by omega)]; rfl
theorem mainK_eq {m : Nat → Nat → Int} {μ : Nat → Nat → Nat} (hm : ∀ x y, m x y = μ x y) (a b : List Nat) (mc : Nat) : lmainG m a b mc = mainK μ a b mc := by
  unfold lmainG mainK
  rw [lenK_eq, lenK_eq]
  cases e : Nat.ble a.length b.length with
  | true =>
    have := Nat.le_of_ble_eq_true e
    rw [if_neg (by omega), finK_eq hm a b mc this]; rfl
  | false =>
    have : ¬ a.length ≤ b.length := fun k => by rw [Nat.ble_eq_true_of_le k] at e; exact absurd e (by decide)
    rw [if_pos (by omega), finK_eq (μ := fun y x => μ x y) (fun y x => hm x y) b a mc (by omega)]; rfl
theorem endK_eq {m : Nat → Nat → Int} {μ : Nat → Nat → Nat} (hm : ∀ x y, m x y = μ x y) (mc : Nat) : ∀ (a b : List Nat), lendG m a b mc = endK μ mc a b
  | [], b => by
    show 2 * (((0 + b.length : Nat) : Int)) = ((2 * lenK b : Nat) : Int)
    rw [lenK_eq]; omega
  | x :: a, [] => by
    show 2 * (((x :: a).length + 0 : Nat) : Int) = ((2 * lenK (x :: a) : Nat) : Int)
    rw [lenK_eq]; omega
  | x :: a, y :: b => by
    have e0 : endK μ mc (x :: a) (y :: b) = cond (Nat.ble (lenK (x :: a)) 40) (cond (Nat.ble (lenK (y :: b)) 40) (mainK μ (x :: a) (y :: b) mc) (Nat.add mc 1)) (Nat.add mc 1) := rfl
    rw [e0, lenK_eq, lenK_eq]
    unfold lendG
    have n : ∀ {x y : Nat}, Nat.ble x y = false → ¬ x ≤ y := fun e k => by rw [Nat.ble_eq_true_of_le k] at e; exact absurd e (by decide)
    simp only [List.isEmpty_cons, Bool.or_false, Bool.false_eq_true, if_false]
    cases e1 : Nat.ble (x :: a).length 40 with
    | false => rw [if_pos (Or.inl (by have := n e1; omega))]; rfl
    | true =>
      cases e2 : Nat.ble (y :: b).length 40 with
      | false => rw [if_pos (Or.inr (by have := n e2; omega))]; rfl
      | true =>
        have := Nat.le_of_ble_eq_true e1
        have := Nat.le_of_ble_eq_true e2
        rw [if_neg (by omega), mainK_eq hm]; rfl
theorem levK_eq {q : Nat → Nat → Bool} {m : Nat → Nat → Int} {μ : Nat → Nat → Nat} (hm : ∀ x y, m x y = μ x y) (a b : List Nat) (mc : Nat) : levG q m a b mc = levK q μ a b mc := by
  unfold levG levK
  cases e : eqG q a b with
  | true => rfl
  | false =>
    rw [if_neg (by decide)]
    show lmidG q m (a.drop (lpreG q a b)) (b.drop (lpreG q a b)) mc = _
    rw [trimK_eq q a b]
    have r1 : ∀ (A : List Nat) (k : Nat), revK (A.reverse.drop k) [] = A.take (A.length - k) := fun A k => by
      rw [revK_eq, List.append_nil, List.reverse_drop, List.reverse_reverse, List.length_reverse]
    have r2 : ∀ A : List Nat, revK A [] = A.reverse := fun A => by rw [revK_eq, List.append_nil]
    simp only [cond_false]
    rw [r2 (a.drop _), r2 (b.drop _), trimK_eq]
    dsimp only
    rw [r1, r1, ← endK_eq hm]
    rfl
end T55

end
section
open PySem PySem.W PyProof.Rows PySem.Calls
namespace T55
set_option linter.unusedVariables false
set_option maxRecDepth 100000
noncomputable def atK : List Nat → Nat → Nat
  | [], _ => 0
  | x :: _, 0 => x
  | _ :: l, i + 1 => atK l i
noncomputable def qK (c : List Nat) (i j : Nat) : Bool := cond (Nat.beq i j) (Nat.beq (atK c i) 0) false
noncomputable def mK (c : List Nat) (i j : Nat) : Nat := cond (Nat.beq i j) (atK c i) 2
theorem atK_eq : ∀ (c : List Nat) (i : Nat), (up c).getD i 0 = atK c i
  | [], i => by simp [up, atK]
  | x :: l, 0 => by simp [up, atK]
  | x :: l, i + 1 => by
    have := atK_eq l i
    simpa [up, atK] using this
theorem beq_dec (i j : Nat) : Nat.beq i j = decide (i = j) := by
  rw [Bool.eq_iff_iff, decide_eq_true_eq]
  exact ⟨Nat.eq_of_beq_eq_true, fun e => by rw [e]; exact Nat.beq_refl j⟩
theorem qK_eq (c : List Nat) : qC (up c) = qK c := by
  funext i j
  unfold qC qK
  rw [atK_eq, beq_dec, beq_dec]
  by_cases h : i = j
  · rw [decide_eq_true h, cond_true]
    rw [Bool.eq_iff_iff, decide_eq_true_eq, decide_eq_true_eq]
    omega
  · rw [decide_eq_false h, cond_false, decide_eq_false fun k => h k.1]
theorem mK_eq (c : List Nat) (i j : Nat) : mC (up c) i j = mK c i j := by
  unfold mC mK
  rw [atK_eq, beq_dec]
  by_cases h : i = j
  · rw [if_pos h, decide_eq_true h]; rfl
  · rw [if_neg h, decide_eq_false h]; rfl
noncomputable def a3 (p : Nat → Bool) : Bool := cond (p 0) (cond (p 1) (p 2) false) false
theorem a3_spec {p : Nat → Bool} (h : a3 p = true) : ∀ n, n < 3 → p n = true := fun n hn => by
  unfold a3 at h
  cases e0 : p 0 with
  | false => rw [e0] at h; exact absurd (show false = true from h) (by decide)
  | true =>
    rw [e0] at h
    cases e1 : p 1 with
    | false => rw [e1] at h; exact absurd (show false = true from h) (by decide)
    | true =>
      rw [e1] at h
      have h : p 2 = true := h
      rcases n with _ | _ | _ | n
      · exact e0
      · exact e1
      · exact h
      · omega
noncomputable def allFive (w v : List Nat) (mc x : Nat) : Bool :=
  a3 fun a => a3 fun b => a3 fun c => a3 fun d => a3 fun e => Nat.beq (levK (qK [a, b, c, d, e]) (mK [a, b, c, d, e]) w v mc) (Nat.add a (Nat.add b (Nat.add c (Nat.add d (Nat.add e x)))))
theorem c3_nat {a : Int} (h : a ∈ c3) : ∃ n : Nat, n < 3 ∧ a = n := by
  have : a = 0 ∨ a = 1 ∨ a = 2 := by simpa [c3] using h
  exact ⟨a.toNat, by omega, by omega⟩
theorem allFive_spec {w v : List Nat} {mc x : Nat} (h : allFive w v mc x = true) : ∀ a ∈ c3, ∀ b ∈ c3, ∀ c ∈ c3, ∀ d ∈ c3, ∀ e ∈ c3, levG (qC [a, b, c, d, e]) (mC [a, b, c, d, e]) w v mc = a + b + c + d + e + x := by
  intro a ha b hb c hc d hd e he
  obtain ⟨a, la, rfl⟩ := c3_nat ha
  obtain ⟨b, lb, rfl⟩ := c3_nat hb
  obtain ⟨c, lc, rfl⟩ := c3_nat hc
  obtain ⟨d, ld, rfl⟩ := c3_nat hd
  obtain ⟨e, le, rfl⟩ := c3_nat he
  have h := a3_spec (a3_spec (a3_spec (a3_spec (a3_spec h a la) b lb) c lc) d ld) e le
  have h : levK (qK [a, b, c, d, e]) (mK [a, b, c, d, e]) w v mc = a + (b + (c + (d + (e + x)))) := Nat.eq_of_beq_eq_true h
  have e1 : ([(a : Int), b, c, d, e] : List Int) = up [a, b, c, d, e] := rfl
  rw [e1, qK_eq, levK_eq (mK_eq [a, b, c, d, e]), h]
  omega
noncomputable def v5 : List Nat := [0, 1, 2, 3, 4]
theorem v5_eq : List.range 5 = v5 := by decide
theorem pair_fin : allFive v5 v5 10 0 = true := by kernel_rfl
theorem lev_pair : ∀ a ∈ c3, ∀ b ∈ c3, ∀ c ∈ c3, ∀ d ∈ c3, ∀ e ∈ c3, levG (qC [a, b, c, d, e]) (mC [a, b, c, d, e]) (List.range 5) (List.range 5) 10 = a + b + c + d + e := fun a ha b hb c hc d hd e he => by
  have := allFive_spec pair_fin a ha b hb c hc d hd e he
  rw [v5_eq]
  exact this.trans (by omega)
theorem dear_fin0 : allFive v5 v5 14 0 = true := by kernel_rfl
theorem lev_dear0 : ∀ a ∈ c3, ∀ b ∈ c3, ∀ c ∈ c3, ∀ d ∈ c3, ∀ e ∈ c3, levG (qC [a, b, c, d, e]) (mC [a, b, c, d, e]) (wd5 0 0) (List.range 5) 14 = a + b + c + d + e := fun a ha b hb c hc d hd e he => by
  have := allFive_spec dear_fin0 a ha b hb c hc d hd e he
  rw [v5_eq, show wd5 0 0 = v5 by decide]
  exact this.trans (by omega)
theorem dear_fin10 : allFive [9, 0, 1, 2, 3, 4] v5 14 2 = true := by kernel_rfl
theorem dear_fin11 : allFive [0, 9, 1, 2, 3, 4] v5 14 2 = true := by kernel_rfl
theorem dear_fin12 : allFive [0, 1, 9, 2, 3, 4] v5 14 2 = true := by kernel_rfl
theorem dear_fin13 : allFive [0, 1, 2, 9, 3, 4] v5 14 2 = true := by kernel_rfl
theorem dear_fin14 : allFive [0, 1, 2, 3, 9, 4] v5 14 2 = true := by kernel_rfl
theorem lev_dear1 : ∀ k, k < 5 → ∀ a ∈ c3, ∀ b ∈ c3, ∀ c ∈ c3, ∀ d ∈ c3, ∀ e ∈ c3, levG (qC [a, b, c, d, e]) (mC [a, b, c, d, e]) (wd5 k 1) (List.range 5) 14 = a + b + c + d + e + 2 := by
  intro k hk
  rw [v5_eq]
  rcases k with _ | _ | _ | _ | _ | k
  · rw [show wd5 0 1 = [9, 0, 1, 2, 3, 4] by decide]; exact allFive_spec dear_fin10
  · rw [show wd5 1 1 = [0, 9, 1, 2, 3, 4] by decide]; exact allFive_spec dear_fin11
  · rw [show wd5 2 1 = [0, 1, 9, 2, 3, 4] by decide]; exact allFive_spec dear_fin12
  · rw [show wd5 3 1 = [0, 1, 2, 9, 3, 4] by decide]; exact allFive_spec dear_fin13
  · rw [show wd5 4 1 = [0, 1, 2, 3, 9, 4] by decide]; exact allFive_spec dear_fin14
  · omega
theorem dear_fin20 : allFive [9, 9, 0, 1, 2, 3, 4] v5 14 4 = true := by kernel_rfl
theorem dear_fin21 : allFive [0, 9, 9, 1, 2, 3, 4] v5 14 4 = true := by kernel_rfl
theorem dear_fin22 : allFive [0, 1, 9, 9, 2, 3, 4] v5 14 4 = true := by kernel_rfl
theorem dear_fin23 : allFive [0, 1, 2, 9, 9, 3, 4] v5 14 4 = true := by kernel_rfl
theorem dear_fin24 : allFive [0, 1, 2, 3, 9, 9, 4] v5 14 4 = true := by kernel_rfl
theorem lev_dear2 : ∀ k, k < 5 → ∀ a ∈ c3, ∀ b ∈ c3, ∀ c ∈ c3, ∀ d ∈ c3, ∀ e ∈ c3, levG (qC [a, b, c, d, e]) (mC [a, b, c, d, e]) (wd5 k 2) (List.range 5) 14 = a + b + c + d + e + 4 := by
  intro k hk
  rw [v5_eq]
  rcases k with _ | _ | _ | _ | _ | k
  · rw [show wd5 0 2 = [9, 9, 0, 1, 2, 3, 4] by decide]; exact allFive_spec dear_fin20
  · rw [show wd5 1 2 = [0, 9, 9, 1, 2, 3, 4] by decide]; exact allFive_spec dear_fin21
  · rw [show wd5 2 2 = [0, 1, 9, 9, 2, 3, 4] by decide]; exact allFive_spec dear_fin22
  · rw [show wd5 3 2 = [0, 1, 2, 9, 9, 3, 4] by decide]; exact allFive_spec dear_fin23
  · rw [show wd5 4 2 = [0, 1, 2, 3, 9, 9, 4] by decide]; exact allFive_spec dear_fin24
  · omega
theorem wd5_zero : ∀ k, k < 5 → wd5 k 0 = wd5 0 0 := by decide
end T55

end
section
open PySem PySem.W PyProof.Rows PySem.Calls
namespace T55
set_option linter.unusedVariables false
noncomputable def dg : List Int := [0, 1, 2, 3]
noncomputable def cf (x y : Int) : Int := if x = y then 0 else if (x = 0 ∨ x = 1) ∧ (y = 0 ∨ y = 1) then 1 else 2
noncomputable def mk3 (x y z : Int) : List Int := wl.map fun wd => (((List.range 3).filter fun k => wd.any fun v => v == [x, y, z].getD k 0).map fun k => (2 : Int) ^ k).sum
theorem part : ∀ x ∈ dg, ∀ y ∈ dg, ∀ z ∈ dg,
    2 * cf x y = cntI (mk3 x y z) 1 + cntI (mk3 x y z) 2 + cntI (mk3 x y z) 5 + cntI (mk3 x y z) 6 ∧
    2 * cf x z = cntI (mk3 x y z) 1 + cntI (mk3 x y z) 3 + cntI (mk3 x y z) 4 + cntI (mk3 x y z) 6 ∧
    2 * cf x 0 = cntI (mk3 x y z) 1 + cntI (mk3 x y z) 3 + cntI (mk3 x y z) 5 + cntI (mk3 x y z) 7 ∧
    2 * cf y z = cntI (mk3 x y z) 2 + cntI (mk3 x y z) 3 + cntI (mk3 x y z) 4 + cntI (mk3 x y z) 5 ∧
    2 * cf y 0 = cntI (mk3 x y z) 2 + cntI (mk3 x y z) 3 + cntI (mk3 x y z) 6 + cntI (mk3 x y z) 7 ∧
    2 * cf z 0 = cntI (mk3 x y z) 4 + cntI (mk3 x y z) 5 + cntI (mk3 x y z) 6 + cntI (mk3 x y z) 7 := by decide +kernel
theorem cntI_append (l l' : List Int) (n : Int) : cntI (l ++ l') n = cntI l n + cntI l' n := by
  unfold cntI
  rw [List.countP_append]
  omega
theorem mskP_mk3 (r0 r1 r2 : List Int) (p : Nat) : mskP [r0, r1, r2] p = mk3 (r0.getD p 0) (r1.getD p 0) (r2.getD p 0) := by
  unfold mskP mk3 mbits
  refine List.map_congr_left fun wd _ => ?_
  congr 2
theorem cnt5 (r0 r1 r2 : List Int) (n : Int) : cntI (maskL [r0, r1, r2] 5) n = cntI (mk3 (r0.getD 0 0) (r1.getD 0 0) (r2.getD 0 0)) n + cntI (mk3 (r0.getD 1 0) (r1.getD 1 0) (r2.getD 1 0)) n + cntI (mk3 (r0.getD 2 0) (r1.getD 2 0) (r2.getD 2 0)) n + cntI (mk3 (r0.getD 3 0) (r1.getD 3 0) (r2.getD 3 0)) n + cntI (mk3 (r0.getD 4 0) (r1.getD 4 0) (r2.getD 4 0)) n := by
  rw [maskL_succ, maskL_succ, maskL_succ, maskL_succ, maskL_succ]
  simp only [cntI_append, mskP_mk3]
  have : cntI (maskL [r0, r1, r2] 0) n = 0 := rfl
  rw [this]
  omega
theorem lin5 (a : Nat → Int) (G : Nat → Int → Int) (C : Int → Int) (m1 m2 m3 m4 : Int) (h : ∀ p, p < 5 → 2 * a p = G p m1 + G p m2 + G p m3 + G p m4) (hC : ∀ m, C m = G 0 m + G 1 m + G 2 m + G 3 m + G 4 m) :
    2 * (a 0 + a 1 + a 2 + a 3 + a 4) = C m1 + C m2 + C m3 + C m4 := by
  have h0 := h 0 (by omega)
  have h1 := h 1 (by omega)
  have h2 := h 2 (by omega)
  have h3 := h 3 (by omega)
  have h4 := h 4 (by omega)
  rw [hC, hC, hC, hC]
  omega
/-- the sum of the places' costs -/
noncomputable def sumC (r r' : List Int) : Int := cf (r.getD 0 0) (r'.getD 0 0) + cf (r.getD 1 0) (r'.getD 1 0) + cf (r.getD 2 0) (r'.getD 2 0) + cf (r.getD 3 0) (r'.getD 3 0) + cf (r.getD 4 0) (r'.getD 4 0)
theorem split (r0 r1 r2 : List Int) (h0 : ∀ p, r0.getD p 0 ∈ dg) (h1 : ∀ p, r1.getD p 0 ∈ dg) (h2 : ∀ p, r2.getD p 0 ∈ dg) :
    cutsV [sumC r0 r1, sumC r0 r2, sumC r0 [0, 0, 0, 0, 0], sumC r1 r2, sumC r1 [0, 0, 0, 0, 0], sumC r2 [0, 0, 0, 0, 0]] = [cntI (maskL [r0, r1, r2] 5) 3 - leastV [r0, r1, r2], cntI (maskL [r0, r1, r2] 5) 5 - leastV [r0, r1, r2], cntI (maskL [r0, r1, r2] 5) 6 - leastV [r0, r1, r2]] ∧
    tailsV [sumC r0 r1, sumC r0 r2, sumC r0 [0, 0, 0, 0, 0], sumC r1 r2, sumC r1 [0, 0, 0, 0, 0], sumC r2 [0, 0, 0, 0, 0]] = [cntI (maskL [r0, r1, r2] 5) 1 + leastV [r0, r1, r2], cntI (maskL [r0, r1, r2] 5) 2 + leastV [r0, r1, r2], cntI (maskL [r0, r1, r2] 5) 4 + leastV [r0, r1, r2], cntI (maskL [r0, r1, r2] 5) 7 + leastV [r0, r1, r2]] := by
  have P := fun p => part _ (h0 p) _ (h1 p) _ (h2 p)
  have z : ∀ p, p < 5 → ([0, 0, 0, 0, 0] : List Int).getD p 0 = 0 := by decide
  have C := cnt5 r0 r1 r2
  have s01 : 2 * sumC r0 r1 = cntI (maskL [r0, r1, r2] 5) 1 + cntI (maskL [r0, r1, r2] 5) 2 + cntI (maskL [r0, r1, r2] 5) 5 + cntI (maskL [r0, r1, r2] 5) 6 := lin5 (fun p => cf (r0.getD p 0) (r1.getD p 0)) _ _ 1 2 5 6 (fun p hp => (P p).1) C
  have s02 : 2 * sumC r0 r2 = cntI (maskL [r0, r1, r2] 5) 1 + cntI (maskL [r0, r1, r2] 5) 3 + cntI (maskL [r0, r1, r2] 5) 4 + cntI (maskL [r0, r1, r2] 5) 6 := lin5 (fun p => cf (r0.getD p 0) (r2.getD p 0)) _ _ 1 3 4 6 (fun p hp => (P p).2.1) C
  have s03 : 2 * sumC r0 [0, 0, 0, 0, 0] = cntI (maskL [r0, r1, r2] 5) 1 + cntI (maskL [r0, r1, r2] 5) 3 + cntI (maskL [r0, r1, r2] 5) 5 + cntI (maskL [r0, r1, r2] 5) 7 := lin5 (fun p => cf (r0.getD p 0) (([0, 0, 0, 0, 0] : List Int).getD p 0)) _ _ 1 3 5 7 (fun p hp => by show 2 * cf _ _ = _; rw [z p hp]; exact (P p).2.2.1) C
  have s12 : 2 * sumC r1 r2 = cntI (maskL [r0, r1, r2] 5) 2 + cntI (maskL [r0, r1, r2] 5) 3 + cntI (maskL [r0, r1, r2] 5) 4 + cntI (maskL [r0, r1, r2] 5) 5 := lin5 (fun p => cf (r1.getD p 0) (r2.getD p 0)) _ _ 2 3 4 5 (fun p hp => (P p).2.2.2.1) C
  have s13 : 2 * sumC r1 [0, 0, 0, 0, 0] = cntI (maskL [r0, r1, r2] 5) 2 + cntI (maskL [r0, r1, r2] 5) 3 + cntI (maskL [r0, r1, r2] 5) 6 + cntI (maskL [r0, r1, r2] 5) 7 := lin5 (fun p => cf (r1.getD p 0) (([0, 0, 0, 0, 0] : List Int).getD p 0)) _ _ 2 3 6 7 (fun p hp => by show 2 * cf _ _ = _; rw [z p hp]; exact (P p).2.2.2.2.1) C
  have s23 : 2 * sumC r2 [0, 0, 0, 0, 0] = cntI (maskL [r0, r1, r2] 5) 4 + cntI (maskL [r0, r1, r2] 5) 5 + cntI (maskL [r0, r1, r2] 5) 6 + cntI (maskL [r0, r1, r2] 5) 7 := lin5 (fun p => cf (r2.getD p 0) (([0, 0, 0, 0, 0] : List Int).getD p 0)) _ _ 4 5 6 7 (fun p hp => by show 2 * cf _ _ = _; rw [z p hp]; exact (P p).2.2.2.2.2) C
  clear P C z
  unfold cutsV tailsV sumsV topV leastV
  simp only [List.getD_cons_zero, List.getD_cons_succ, List.map_cons, List.map_nil]
  generalize sumC r0 r1 = a at *
  generalize sumC r0 r2 = b at *
  generalize sumC r0 [0, 0, 0, 0, 0] = c at *
  generalize sumC r1 r2 = d at *
  generalize sumC r1 [0, 0, 0, 0, 0] = e at *
  generalize sumC r2 [0, 0, 0, 0, 0] = f at *
  generalize cntI (maskL [r0, r1, r2] 5) 1 = c1 at *
  generalize cntI (maskL [r0, r1, r2] 5) 2 = c2 at *
  generalize cntI (maskL [r0, r1, r2] 5) 3 = c3 at *
  generalize cntI (maskL [r0, r1, r2] 5) 4 = c4 at *
  generalize cntI (maskL [r0, r1, r2] 5) 5 = c5 at *
  generalize cntI (maskL [r0, r1, r2] 5) 6 = c6 at *
  generalize cntI (maskL [r0, r1, r2] 5) 7 = c7 at *
  simp only [List.cons.injEq, and_true]
  omega
end T55

end
section
open PySem PySem.W PyProof.Rows PySem.Calls
namespace T55
set_option linter.unusedVariables false
set_option maxRecDepth 10000
noncomputable def Lt (t lo d : Int) (i : Nat) : Nat := ((hds t).getD d.toNat 0 + lo + (i : Int)).toNat
noncomputable def kk (lo : Int) (i : Nat) : Nat := (lo + (i : Int)).toNat
noncomputable def am (t : Int) : Nat := (alph.getD t.toNat 0).toNat
theorem alph_facts : ∀ j, j < 9 → 119808 ≤ alph.getD j 0 ∧ alph.getD j 0 + 52 ≤ alph.getD (j + 1) 0 ∧ alph.getD (j + 1) 0 ≤ 120432 := by decide
variable {t lo : Int} {i j : Nat}
theorem t_facts (ht : 0 ≤ t ∧ t < 9) : 119808 ≤ am t ∧ am t + 52 ≤ am (t + 1) ∧ am (t + 1) ≤ 120432 ∧ (alph.getD t.toNat 0 = (am t : Int)) ∧ (alph.getD (t + 1).toNat 0 = (am (t + 1) : Int)) := by
  have h := alph_facts t.toNat (by omega)
  have e : (t + 1).toNat = t.toNat + 1 := by omega
  unfold am
  rw [e]
  omega
theorem Lt_0 (ht : 0 ≤ t ∧ t < 9) (hlo : 0 ≤ lo ∧ lo ≤ 21) (hi : i < 5) : Lt t lo 0 i = 97 + kk lo i := by
  have : (hds t).getD (0 : Int).toNat 0 = 97 := rfl
  unfold Lt kk; rw [this]; omega
theorem Lt_1 (ht : 0 ≤ t ∧ t < 9) (hlo : 0 ≤ lo ∧ lo ≤ 21) (hi : i < 5) : Lt t lo 1 i = 65 + kk lo i := by
  have : (hds t).getD (1 : Int).toNat 0 = 65 := rfl
  unfold Lt kk; rw [this]; omega
theorem Lt_2 (ht : 0 ≤ t ∧ t < 9) (hlo : 0 ≤ lo ∧ lo ≤ 21) (hi : i < 5) : Lt t lo 2 i = am t + kk lo i := by
  have : (hds t).getD (2 : Int).toNat 0 = alph.getD t.toNat 0 := rfl
  have h := t_facts ht
  unfold Lt kk; rw [this, h.2.2.2.1]; omega
theorem Lt_3 (ht : 0 ≤ t ∧ t < 9) (hlo : 0 ≤ lo ∧ lo ≤ 21) (hi : i < 5) : Lt t lo 3 i = am (t + 1) + kk lo i := by
  have : (hds t).getD (3 : Int).toNat 0 = alph.getD (t + 1).toNat 0 := rfl
  have h := t_facts ht
  unfold Lt kk; rw [this, h.2.2.2.2]; omega
theorem kk_lt (hlo : 0 ≤ lo ∧ lo ≤ 21) (hi : i < 5) : kk lo i < 26 := by unfold kk; omega
theorem low_0 (ht : 0 ≤ t ∧ t < 9) (hlo : 0 ≤ lo ∧ lo ≤ 21) (hi : i < 5) : Txt.lower (tx [Lt t lo 0 i]) = tx [97 + kk lo i] := by rw [Lt_0 ht hlo hi]; exact low_a _ (kk_lt hlo hi)
theorem low_1 (ht : 0 ≤ t ∧ t < 9) (hlo : 0 ≤ lo ∧ lo ≤ 21) (hi : i < 5) : Txt.lower (tx [Lt t lo 1 i]) = tx [97 + kk lo i] := by rw [Lt_1 ht hlo hi]; exact low_A _ (kk_lt hlo hi)
theorem low_2 (ht : 0 ≤ t ∧ t < 9) (hlo : 0 ≤ lo ∧ lo ≤ 21) (hi : i < 5) : Txt.lower (tx [Lt t lo 2 i]) = tx [am t + kk lo i] := by rw [Lt_2 ht hlo hi]; exact low_m _ (by omega) _ (kk_lt hlo hi)
theorem low_3 (ht : 0 ≤ t ∧ t < 9) (hlo : 0 ≤ lo ∧ lo ≤ 21) (hi : i < 5) : Txt.lower (tx [Lt t lo 3 i]) = tx [am (t + 1) + kk lo i] := by rw [Lt_3 ht hlo hi]; exact low_m _ (by omega) _ (kk_lt hlo hi)
theorem tx1_eq (a b : Nat) : (tx [a] == tx [b]) = decide (a = b) := by
  rw [Bool.eq_iff_iff]; simp [tx]
theorem co_num {x y lx ly : Nat} (hx : Txt.lower (tx [x]) = tx [lx]) (hy : Txt.lower (tx [y]) = tx [ly]) : co y x = if x = y then 0 else if lx = ly then 1 else 2 := by
  unfold co cost
  rw [hx, hy, tx1_eq, tx1_eq]
  simp only [decide_eq_true_eq]
  by_cases h : x = y
  · rw [if_pos h, if_pos h.symm]
  · rw [if_neg h, if_neg (Ne.symm h)]
    by_cases h2 : lx = ly
    · rw [if_pos h2, if_pos h2.symm]
    · rw [if_neg h2, if_neg (Ne.symm h2)]
/-- one pair of letters -/
theorem co_case {d e c : Int} {x y ex ey lx ly : Nat} (hx : x = ex) (hy : y = ey) (lhx : Txt.lower (tx [x]) = tx [lx]) (lhy : Txt.lower (tx [y]) = tx [ly]) (hc : cf d e = c) (hq : ex = ey ↔ (i = j ∧ c = 0)) (hm : ¬ ex = ey → ((lx = ly → i = j ∧ c = 1) ∧ (¬ lx = ly → (i = j → c = 2)))) :
    decide (x = y) = decide (i = j ∧ cf d e = 0) ∧ co y x = if i = j then cf d e else 2 := by
  subst hx hy
  rw [hc, co_num lhx lhy]
  refine ⟨by rw [Bool.eq_iff_iff, decide_eq_true_eq, decide_eq_true_eq]; exact hq, ?_⟩
  by_cases h : x = y
  · rw [if_pos h]
    obtain ⟨h1, h2⟩ := hq.mp h
    rw [if_pos h1, h2]
  · rw [if_neg h]
    obtain ⟨m1, m2⟩ := hm h
    by_cases h2 : lx = ly
    · rw [if_pos h2]
      obtain ⟨a, b⟩ := m1 h2
      rw [if_pos a, b]
    · rw [if_neg h2]
      by_cases h3 : i = j
      · rw [if_pos h3, m2 h2 h3]
      · rw [if_neg h3]
theorem kk_eq (hlo : 0 ≤ lo ∧ lo ≤ 21) (hi : i < 5) (hj : j < 5) : kk lo i = kk lo j ↔ i = j := by unfold kk; omega
theorem letters {d e : Int} (ht : 0 ≤ t ∧ t < 9) (hlo : 0 ≤ lo ∧ lo ≤ 21) (hi : i < 5) (hj : j < 5) (hd : d ∈ dg) (he : e ∈ dg) :
    decide (Lt t lo d i = Lt t lo e j) = decide (i = j ∧ cf d e = 0) ∧ co (Lt t lo e j) (Lt t lo d i) = if i = j then cf d e else 2 := by
  have h := t_facts ht
  have hk := kk_eq hlo hi hj
  have h1 := kk_lt hlo hi
  have h2 := kk_lt hlo hj
  simp only [dg, List.mem_cons, List.not_mem_nil, or_false] at hd he
  rcases hd with rfl | rfl | rfl | rfl <;> rcases he with rfl | rfl | rfl | rfl
  · exact co_case (Lt_0 ht hlo hi) (Lt_0 ht hlo hj) (low_0 ht hlo hi) (low_0 ht hlo hj) (c := 0) (by decide) (by omega) (by omega)
  · exact co_case (Lt_0 ht hlo hi) (Lt_1 ht hlo hj) (low_0 ht hlo hi) (low_1 ht hlo hj) (c := 1) (by decide) (by omega) (by omega)
  · exact co_case (Lt_0 ht hlo hi) (Lt_2 ht hlo hj) (low_0 ht hlo hi) (low_2 ht hlo hj) (c := 2) (by decide) (by omega) (by omega)
  · exact co_case (Lt_0 ht hlo hi) (Lt_3 ht hlo hj) (low_0 ht hlo hi) (low_3 ht hlo hj) (c := 2) (by decide) (by omega) (by omega)
  · exact co_case (Lt_1 ht hlo hi) (Lt_0 ht hlo hj) (low_1 ht hlo hi) (low_0 ht hlo hj) (c := 1) (by decide) (by omega) (by omega)
  · exact co_case (Lt_1 ht hlo hi) (Lt_1 ht hlo hj) (low_1 ht hlo hi) (low_1 ht hlo hj) (c := 0) (by decide) (by omega) (by omega)
  · exact co_case (Lt_1 ht hlo hi) (Lt_2 ht hlo hj) (low_1 ht hlo hi) (low_2 ht hlo hj) (c := 2) (by decide) (by omega) (by omega)
  · exact co_case (Lt_1 ht hlo hi) (Lt_3 ht hlo hj) (low_1 ht hlo hi) (low_3 ht hlo hj) (c := 2) (by decide) (by omega) (by omega)
  · exact co_case (Lt_2 ht hlo hi) (Lt_0 ht hlo hj) (low_2 ht hlo hi) (low_0 ht hlo hj) (c := 2) (by decide) (by omega) (by omega)
  · exact co_case (Lt_2 ht hlo hi) (Lt_1 ht hlo hj) (low_2 ht hlo hi) (low_1 ht hlo hj) (c := 2) (by decide) (by omega) (by omega)
  · exact co_case (Lt_2 ht hlo hi) (Lt_2 ht hlo hj) (low_2 ht hlo hi) (low_2 ht hlo hj) (c := 0) (by decide) (by omega) (by omega)
  · exact co_case (Lt_2 ht hlo hi) (Lt_3 ht hlo hj) (low_2 ht hlo hi) (low_3 ht hlo hj) (c := 2) (by decide) (by omega) (by omega)
  · exact co_case (Lt_3 ht hlo hi) (Lt_0 ht hlo hj) (low_3 ht hlo hi) (low_0 ht hlo hj) (c := 2) (by decide) (by omega) (by omega)
  · exact co_case (Lt_3 ht hlo hi) (Lt_1 ht hlo hj) (low_3 ht hlo hi) (low_1 ht hlo hj) (c := 2) (by decide) (by omega) (by omega)
  · exact co_case (Lt_3 ht hlo hi) (Lt_2 ht hlo hj) (low_3 ht hlo hi) (low_2 ht hlo hj) (c := 2) (by decide) (by omega) (by omega)
  · exact co_case (Lt_3 ht hlo hi) (Lt_3 ht hlo hj) (low_3 ht hlo hi) (low_3 ht hlo hj) (c := 0) (by decide) (by omega) (by omega)
end T55

end
section
open PySem PySem.W PyProof.Rows PySem.Calls
namespace T55
set_option linter.unusedVariables false
set_option maxRecDepth 10000
variable {t lo : Int}
theorem digs_mem (n : Int) (i : Nat) : (digs n).getD i 0 ∈ dg := by
  by_cases h : i < (digs n).length
  · have hm : (digs n).getD i 0 ∈ digs n := getD_mem h
    have hb := digs_bound n _ hm
    generalize (digs n).getD i 0 = d at hb
    have : d = 0 ∨ d = 1 ∨ d = 2 ∨ d = 3 := by omega
    rcases this with rfl | rfl | rfl | rfl <;> decide
  · have : (digs n).getD i 0 = 0 := by simp [List.getD_eq_getElem?_getD, h]
    rw [this]; decide
theorem cf_mem : ∀ x ∈ dg, ∀ y ∈ dg, cf x y ∈ c3 := by decide
theorem cf_zero : ∀ x ∈ dg, cf x 0 = min x 2 := by decide
theorem low_g1 : ∀ c ∈ b1L, Txt.lower (tx [c.toNat]) = tx [c.toNat] := by decide +kernel
theorem b1_bounds : ∀ c ∈ b1L, 173 ≤ c ∧ c ≤ 65279 := by decide
theorem gone_b1 (x : Int) : goneC x ∈ b1L := by
  have h0 := Int.fmod_nonneg_of_pos x (show (0 : Int) < 27 by decide)
  have h1 := Int.fmod_lt_of_pos x (show (0 : Int) < 27 by decide)
  have h := gone_mem (Int.fmod x 27).toNat (by omega)
  unfold goneC
  by_cases c : Int.fmod x 27 < 11
  · rw [if_pos c]
    rwa [if_pos (by omega)] at h
  · rw [if_neg c]
    rw [if_neg (by omega)] at h
    rwa [show ((Int.fmod x 27).toNat : Int) = Int.fmod x 27 by omega] at h
theorem nm_map (n : Int) : nmL n t lo = (List.range 5).map fun i => Lt t lo ((digs n).getD i 0) i := by
  unfold nmL chs Lt
  rw [digs_len]
theorem word_map : wordL lo = (List.range 5).map fun i => Lt t lo 0 i := by
  unfold wordL Lt
  rfl
theorem five {P : Nat → Prop} (h0 : P 0) (h1 : P 1) (h2 : P 2) (h3 : P 3) (h4 : P 4) : ∀ i, i < 5 → P i := fun i hi => by
  have : i = 0 ∨ i = 1 ∨ i = 2 ∨ i = 3 ∨ i = 4 := by omega
  rcases this with rfl | rfl | rfl | rfl | rfl
  · exact h0
  · exact h1
  · exact h2
  · exact h3
  · exact h4
/-- the places' costs of two rows -/
noncomputable def cL (r r' : Nat → Int) : List Int := [cf (r 0) (r' 0), cf (r 1) (r' 1), cf (r 2) (r' 2), cf (r 3) (r' 3), cf (r 4) (r' 4)]
theorem cL_at (r r' : Nat → Int) : ∀ i, i < 5 → (cL r r').getD i 0 = cf (r i) (r' i) := five rfl rfl rfl rfl rfl
theorem lev_gen {r r' : Nat → Int} (ht : 0 ≤ t ∧ t < 9) (hlo : 0 ≤ lo ∧ lo ≤ 21) (hr : ∀ i, r i ∈ dg) (hr' : ∀ i, r' i ∈ dg) :
    lev ((List.range 5).map fun i => Lt t lo (r i) i) ((List.range 5).map fun i => Lt t lo (r' i) i) 10 = cf (r 0) (r' 0) + cf (r 1) (r' 1) + cf (r 2) (r' 2) + cf (r 3) (r' 3) + cf (r 4) (r' 4) := by
  rw [lev_eq, levG_map (q' := qC (cL r r')) (m' := mC (cL r r'))]
  · exact lev_pair _ (cf_mem _ (hr 0) _ (hr' 0)) _ (cf_mem _ (hr 1) _ (hr' 1)) _ (cf_mem _ (hr 2) _ (hr' 2)) _ (cf_mem _ (hr 3) _ (hr' 3)) _ (cf_mem _ (hr 4) _ (hr' 4))
  · intro x hx y hy
    rw [(letters ht hlo (List.mem_range.mp hx) (List.mem_range.mp hy) (hr x) (hr' y)).1]
    unfold qC
    rw [cL_at r r' x (List.mem_range.mp hx), Bool.eq_iff_iff, decide_eq_true_eq, decide_eq_true_eq]
    constructor
    · rintro ⟨rfl, h⟩; exact ⟨rfl, h⟩
    · rintro ⟨rfl, h⟩; exact ⟨rfl, h⟩
  · intro x hx y hy
    rw [(letters ht hlo (List.mem_range.mp hx) (List.mem_range.mp hy) (hr x) (hr' y)).2]
    unfold mC
    rw [cL_at r r' x (List.mem_range.mp hx)]
    by_cases h : x = y
    · rw [if_pos h, if_pos h, h]
    · rw [if_neg h, if_neg h]
theorem wd5_mem {k h x : Nat} (hx : x ∈ wd5 k h) : x < 5 ∨ x = 9 := by
  unfold wd5 at hx
  rcases List.mem_append.mp hx with a | a
  · exact .inl (List.mem_range.mp (List.mem_of_mem_take a))
  · rcases List.mem_append.mp a with a | a
    · exact .inr (List.eq_of_mem_replicate a)
    · exact .inl (List.mem_range.mp (List.mem_of_mem_drop a))
/-- a letter, or the sign of table B.1 -/
noncomputable def Lg (t lo : Int) (r : Nat → Int) (g : Nat) (i : Nat) : Nat := if i = 9 then g else Lt t lo (r i) i
theorem lev_dear {r : Nat → Int} {g : Int} {k h : Nat} (ht : 0 ≤ t ∧ t < 9) (hlo : 0 ≤ lo ∧ lo ≤ 21) (hr : ∀ i, r i ∈ dg) (hg : g ∈ b1L) (hk : k < 5) (hh : h < 3) :
    lev ((wd5 k h).map (Lg t lo r g.toNat)) ((List.range 5).map fun i => Lt t lo 0 i) 14 = cf (r 0) 0 + cf (r 1) 0 + cf (r 2) 0 + cf (r 3) 0 + cf (r 4) 0 + 2 * (h : Int) := by
  have z : (0 : Int) ∈ dg := by decide
  have hb := b1_bounds g hg
  rw [lev_eq, levG_map (q' := qC (cL r fun _ => 0)) (m' := mC (cL r fun _ => 0))]
  · have : h = 0 ∨ h = 1 ∨ h = 2 := by omega
    have m := fun i => cf_mem _ (hr i) _ z
    rcases this with rfl | rfl | rfl
    · rw [wd5_zero k hk]
      have := lev_dear0 _ (m 0) _ (m 1) _ (m 2) _ (m 3) _ (m 4)
      unfold cL
      rw [this]
      omega
    · have := lev_dear1 k hk _ (m 0) _ (m 1) _ (m 2) _ (m 3) _ (m 4)
      unfold cL
      rw [this]
      rfl
    · have := lev_dear2 k hk _ (m 0) _ (m 1) _ (m 2) _ (m 3) _ (m 4)
      unfold cL
      rw [this]
      rfl
  · intro x hx y hy
    have hy5 := List.mem_range.mp hy
    rcases wd5_mem hx with h5 | rfl
    · unfold Lg
      rw [if_neg (by omega), (letters ht hlo h5 hy5 (hr x) z).1]
      unfold qC
      rw [cL_at r _ x h5]
    · unfold Lg qC
      rw [if_pos rfl, Lt_0 ht hlo hy5, decide_eq_false, decide_eq_false]
      · omega
      · have := kk_lt hlo hy5
        omega
  · intro x hx y hy
    have hy5 := List.mem_range.mp hy
    rcases wd5_mem hx with h5 | rfl
    · unfold Lg
      rw [if_neg (by omega), (letters ht hlo h5 hy5 (hr x) z).2]
      unfold mC
      rw [cL_at r _ x h5]
    · unfold Lg mC
      have := kk_lt hlo hy5
      rw [if_pos rfl, if_neg (by omega), co_num (low_g1 g hg) (low_0 ht hlo hy5), Lt_0 ht hlo hy5, if_neg (by omega), if_neg (by omega)]
end T55

end
section
open PySem PySem.W PyProof.Rows PySem.Calls
namespace T55
set_option linter.unusedVariables false
set_option maxRecDepth 10000
variable {t lo : Int}
theorem plc_lt (h : Int) : plc h < 5 := by
  have h0 := Int.fmod_nonneg_of_pos (Int.fdiv h 3) (show (0 : Int) < 5 by decide)
  have h1 := Int.fmod_lt_of_pos (Int.fdiv h 3) (show (0 : Int) < 5 by decide)
  unfold plc; omega
theorem hid_lt (h : Int) : (Int.fmod h 3).toNat < 3 ∧ ((Int.fmod h 3).toNat : Int) = Int.fmod h 3 := by
  have h0 := Int.fmod_nonneg_of_pos h (show (0 : Int) < 3 by decide)
  have h1 := Int.fmod_lt_of_pos h (show (0 : Int) < 3 by decide)
  omega
theorem flat_rep (h g : Nat) : (List.replicate h [g]).flatten = List.replicate h g := by
  induction h with
  | zero => rfl
  | succ h ih => rw [List.replicate_succ, List.flatten_cons, ih, List.replicate_succ]; rfl
theorem ty_map (n : Int) : tyL n t lo = (wd5 (plc (Int.fdiv n 1024)) (Int.fmod (Int.fdiv n 1024) 3).toNat).map (Lg t lo (fun i => (digs n).getD i 0) (goneC (Int.fdiv (Int.fdiv n 1024) 15)).toNat) := by
  have e : chs (digs n) (hds t) lo = (List.range 5).map (Lg t lo (fun i => (digs n).getD i 0) (goneC (Int.fdiv (Int.fdiv n 1024) 15)).toNat) := by
    show nmL n t lo = _
    rw [nm_map]
    refine List.map_congr_left fun i hi => ?_
    have := List.mem_range.mp hi
    unfold Lg
    rw [if_neg (by omega)]
  unfold tyL typ wd5
  rw [e, flat_rep, List.map_append, List.map_append, List.map_take, List.map_drop, List.map_replicate, List.append_assoc]
  rfl
theorem Lt_num {d : Int} {i : Nat} (ht : 0 ≤ t ∧ t < 9) (hlo : 0 ≤ lo ∧ lo ≤ 21) (hi : i < 5) (hd : d ∈ dg) : (65 ≤ Lt t lo d i ∧ Lt t lo d i ≤ 122) ∨ (119808 ≤ Lt t lo d i ∧ Lt t lo d i < 130000) := by
  have h := t_facts ht
  have h1 := kk_lt hlo hi
  simp only [dg, List.mem_cons, List.not_mem_nil, or_false] at hd
  rcases hd with rfl | rfl | rfl | rfl
  · rw [Lt_0 ht hlo hi]; omega
  · rw [Lt_1 ht hlo hi]; omega
  · rw [Lt_2 ht hlo hi]; omega
  · rw [Lt_3 ht hlo hi]; omega
theorem nb_letter {d : Int} {i : Nat} (ht : 0 ≤ t ∧ t < 9) (hlo : 0 ≤ lo ∧ lo ≤ 21) (hi : i < 5) (hd : d ∈ dg) : nb (Lt t lo d i) = true := by
  have h := Lt_num ht hlo hi hd
  unfold nb
  rw [Bool.not_eq_true']
  refine Bool.eq_false_iff.mpr fun hc => ?_
  have hm : ((Lt t lo d i : Nat) : Int) ∈ b1L := by simpa using hc
  have := b1_bounds _ hm
  omega
theorem low_letter {d : Int} {i : Nat} (ht : 0 ≤ t ∧ t < 9) (hlo : 0 ≤ lo ∧ lo ≤ 21) (hi : i < 5) (hd : d ∈ dg) : (Txt.lower (tx [Lt t lo d i])).length ≤ 1000 := by
  simp only [dg, List.mem_cons, List.not_mem_nil, or_false] at hd
  rcases hd with rfl | rfl | rfl | rfl
  · rw [low_0 ht hlo hi, tx_len]; show 1 ≤ 1000; decide
  · rw [low_1 ht hlo hi, tx_len]; show 1 ≤ 1000; decide
  · rw [low_2 ht hlo hi, tx_len]; show 1 ≤ 1000; decide
  · rw [low_3 ht hlo hi, tx_len]; show 1 ≤ 1000; decide
theorem map_letter {d : Int} {i : Nat} (ht : 0 ≤ t ∧ t < 9) (hlo : 0 ≤ lo ∧ lo ≤ 21) (hi : i < 5) (hd : d ∈ dg) : mapcL (Lt t lo d i) = [Lt t lo 0 i] := by
  have hk := kk_lt hlo hi
  rw [Lt_0 ht hlo hi]
  have key : mapc (Lt t lo d i) = tx [97 + kk lo i] := by
    simp only [dg, List.mem_cons, List.not_mem_nil, or_false] at hd
    unfold mapc
    rcases hd with rfl | rfl | rfl | rfl
    · rw [Lt_0 ht hlo hi, b3_a _ hk]; exact low_a _ hk
    · rw [Lt_1 ht hlo hi, b3_A _ hk]; exact low_A _ hk
    · rw [Lt_2 ht hlo hi]
      have := b3_m t.toNat (by omega) _ hk
      unfold am
      rw [this]
    · rw [Lt_3 ht hlo hi]
      have := b3_m (t + 1).toNat (by omega) _ hk
      unfold am
      rw [this]
  unfold mapcL
  rw [key]
  simp [tx]
theorem ty_mem {n : Int} {c : Nat} (hc : c ∈ tyL n t lo) : (∃ i, i < 5 ∧ c = Lt t lo ((digs n).getD i 0) i) ∨ (∃ g, g ∈ b1L ∧ c = g.toNat) := by
  rw [ty_map] at hc
  obtain ⟨x, hx, rfl⟩ := List.mem_map.mp hc
  rcases wd5_mem hx with h5 | rfl
  · refine .inl ⟨x, h5, ?_⟩
    unfold Lg; rw [if_neg (by omega)]
  · exact .inr ⟨_, gone_b1 _, by unfold Lg; rw [if_pos rfl]⟩
theorem nm_mem {n : Int} {c : Nat} (hc : c ∈ nmL n t lo) : ∃ i, i < 5 ∧ c = Lt t lo ((digs n).getD i 0) i := by
  rw [nm_map] at hc
  obtain ⟨i, hi, rfl⟩ := List.mem_map.mp hc
  exact ⟨i, List.mem_range.mp hi, rfl⟩
theorem wd5_len (k h : Nat) : (wd5 k h).length = 5 + h := by
  unfold wd5
  simp
  omega
theorem nm_filter (n : Int) (ht : 0 ≤ t ∧ t < 9) (hlo : 0 ≤ lo ∧ lo ≤ 21) : (tyL n t lo).filter nb = nmL n t lo := by
  have hg := gone_b1 (Int.fdiv (Int.fdiv n 1024) 15)
  have hgb : nb (goneC (Int.fdiv (Int.fdiv n 1024) 15)).toNat = false := by
    have := b1_bounds _ hg
    unfold nb
    rw [show (((goneC (Int.fdiv (Int.fdiv n 1024) 15)).toNat : Nat) : Int) = goneC (Int.fdiv (Int.fdiv n 1024) 15) by omega]
    simpa using hg
  have hall : ∀ c ∈ nmL n t lo, nb c = true := fun c hc => by
    obtain ⟨i, hi, rfl⟩ := nm_mem hc
    exact nb_letter ht hlo hi (digs_mem n i)
  unfold tyL typ
  show List.filter nb ((nmL n t lo).take _ ++ _ ++ (nmL n t lo).drop _) = _
  rw [flat_rep, List.filter_append, List.filter_append]
  rw [List.filter_eq_self.mpr fun c hc => hall c (List.mem_of_mem_take hc), List.filter_eq_self.mpr fun c hc => hall c (List.mem_of_mem_drop hc)]
  rw [List.filter_eq_nil_iff.mpr fun c hc => by rw [List.eq_of_mem_replicate hc, hgb]; decide]
  rw [List.append_nil, List.take_append_drop]
theorem nm_plain (n : Int) (ht : 0 ≤ t ∧ t < 9) (hlo : 0 ≤ lo ∧ lo ≤ 21) : ((nmL n t lo).map mapcL).flatten = wordL lo := by
  rw [nm_map, word_map (t := t), List.map_map]
  have : (List.range 5).map (mapcL ∘ fun i => Lt t lo ((digs n).getD i 0) i) = ((List.range 5).map fun i => Lt t lo 0 i).map fun c => [c] := by
    rw [List.map_map]
    refine List.map_congr_left fun i hi => ?_
    exact map_letter ht hlo (List.mem_range.mp hi) (digs_mem n i)
  rw [this, singles_flat]
theorem lev_nm (n n' : Int) (ht : 0 ≤ t ∧ t < 9) (hlo : 0 ≤ lo ∧ lo ≤ 21) : lev (nmL n t lo) (nmL n' t lo) 10 = sumC (digs n) (digs n') := by
  rw [nm_map, nm_map, lev_gen ht hlo (digs_mem n) (digs_mem n')]
  rfl
theorem lev_nmW (n : Int) (ht : 0 ≤ t ∧ t < 9) (hlo : 0 ≤ lo ∧ lo ≤ 21) : lev (nmL n t lo) (wordL lo) 10 = sumC (digs n) [0, 0, 0, 0, 0] := by
  rw [nm_map, word_map (t := t), lev_gen (r' := fun _ => 0) ht hlo (digs_mem n) (fun _ => by decide)]
  rfl
theorem min_sum (n : Int) : ((digs n).map fun f => min f 2).sum = cf ((digs n).getD 0 0) 0 + cf ((digs n).getD 1 0) 0 + cf ((digs n).getD 2 0) 0 + cf ((digs n).getD 3 0) 0 + cf ((digs n).getD 4 0) 0 := by
  rw [cf_zero _ (digs_mem n 0), cf_zero _ (digs_mem n 1), cf_zero _ (digs_mem n 2), cf_zero _ (digs_mem n 3), cf_zero _ (digs_mem n 4)]
  have h5 := digs_len n
  generalize digs n = l at h5
  obtain ⟨a, b, c, d, e, rfl⟩ : ∃ a b c d e, l = [a, b, c, d, e] := by
    match l, h5 with
    | [a, b, c, d, e], _ => exact ⟨a, b, c, d, e, rfl⟩
  simp only [List.map_cons, List.map_nil, List.sum_cons, List.sum_nil, List.getD_cons_zero, List.getD_cons_succ]
  omega
theorem facts_all (n0 n1 n2 : Int) (ht : 0 ≤ t ∧ t < 9) (hlo : 0 ≤ lo ∧ lo ≤ 21) : Facts n0 n1 n2 t lo where
  len := fun n _ => by
    have := (hid_lt (Int.fdiv n 1024)).1
    rw [ty_map, List.length_map, wd5_len]; omega
  ok := fun n _ c hc => by
    rcases ty_mem hc with ⟨i, hi, rfl⟩ | ⟨g, hg, rfl⟩
    · have := Lt_num ht hlo hi (digs_mem n i); omega
    · have := b1_bounds g hg; omega
  nm := fun n _ => nm_filter n ht hlo
  pl := fun n _ => nm_plain n ht hlo
  lowT := fun n _ c hc => by
    rcases ty_mem hc with ⟨i, hi, rfl⟩ | ⟨g, hg, rfl⟩
    · exact low_letter ht hlo hi (digs_mem n i)
    · rw [low_g1 g hg, tx_len]; show 1 ≤ 1000; decide
  lowN := fun n _ c hc => by
    obtain ⟨i, hi, rfl⟩ := nm_mem hc
    exact low_letter ht hlo hi (digs_mem n i)
  lowW := fun c hc => by
    rw [word_map (t := t)] at hc
    obtain ⟨i, hi, rfl⟩ := List.mem_map.mp hc
    exact low_letter ht hlo (List.mem_range.mp hi) (by decide)
  dear := fun n _ => by
    obtain ⟨a, b⟩ := hid_lt (Int.fdiv n 1024)
    rw [ty_map, word_map (t := t), lev_dear ht hlo (digs_mem n) (gone_b1 _) (plc_lt _) a, b]
    unfold dearV
    rw [min_sum]
    omega
  cuts := by
    unfold wsL
    rw [lev_nm n0 n1 ht hlo, lev_nm n0 n2 ht hlo, lev_nm n1 n2 ht hlo, lev_nmW n0 ht hlo, lev_nmW n1 ht hlo, lev_nmW n2 ht hlo]
    exact (split _ _ _ (digs_mem n0) (digs_mem n1) (digs_mem n2)).1
  tails := by
    unfold wsL
    rw [lev_nm n0 n1 ht hlo, lev_nm n0 n2 ht hlo, lev_nm n1 n2 ht hlo, lev_nmW n0 ht hlo, lev_nmW n1 ht hlo, lev_nmW n2 ht hlo]
    exact (split _ _ _ (digs_mem n0) (digs_mem n1) (digs_mem n2)).2
end T55

end
section
open PySem PySem.W
set_option maxRecDepth 100000
set_option maxHeartbeats 0
set_option Elab.async false
namespace T55
theorem said : OpenLaw.wellSaid PySem.Challenge.rw_to0055_01 = true := by
  rw [PySem.W.Fast.te9446332074065402090]
  delta PySem.W.Fast.tw9446332074065402090
  repeat' (with_reducible refine look_both ?_ ?_)
  delta PySem.W.Fast.tw17960256430627541270
  repeat' (with_reducible refine look_both ?_ ?_)
  delta PySem.W.Fast.tw2436336058641802641
  repeat' (with_reducible refine look_both ?_ ?_)
  delta PySem.W.Fast.tw12908688711261696721
  repeat' (with_reducible refine look_both ?_ ?_)
  all_goals decide +kernel
end T55

end
section
open PySem PySem.W PyProof.Rows PySem.Calls
namespace T55
set_option maxRecDepth 100000
set_option maxHeartbeats 0
set_option Elab.async false
noncomputable abbrev RR : OpenRow := PySem.Challenge.rw_to0055_01.row
theorem ints_rep {h : Heap} : ∀ {vs : List Value} {ns : List Int}, IntsAre vs ns → RepL h (pInts ns) vs
  | _, _, .nil => rfl
  | _, _, .cons n t r => ⟨_, _, rfl, ⟨t, rfl⟩, ints_rep r⟩
theorem facts (n0 n1 n2 n3 : Int) (_ : 0 ≤ n0) (_ : 0 ≤ n1) (_ : 0 ≤ n2) (_ : 0 ≤ n3) : Facts n0 n1 n2 (Int.fmod (Int.fdiv n3 22) 9) (Int.fmod n3 22) := by
  have a0 := Int.fmod_nonneg_of_pos (Int.fdiv n3 22) (show (0 : Int) < 9 by decide)
  have a1 := Int.fmod_lt_of_pos (Int.fdiv n3 22) (show (0 : Int) < 9 by decide)
  have b0 := Int.fmod_nonneg_of_pos n3 (show (0 : Int) < 22 by decide)
  have b1 := Int.fmod_lt_of_pos n3 (show (0 : Int) < 22 by decide)
  exact facts_all n0 n1 n2 ⟨a0, a1⟩ ⟨b0, by omega⟩
theorem caller_ok : Ok callerA 7 := ⟨by rfl, by decide, by decide⟩
theorem g_law (P : Params) : gmap P "law" = some (.ref 149) := by kernel_rfl
theorem law_at {P : Params} {mg : Str → Option Value} {a : Addr} (h1 : mg = gmap P) (h5 : mg "law" = some (.ref a)) : a = 149 := by
  rw [h1, g_law] at h5
  exact (Value.ref.inj (Option.some.inj h5)).symm
theorem holds_law : PySem.Challenge.rw_to0055_01.Holds := by
  refine PySem.W.holds_law said fun _ => ?_
  refine holds_openX (r := RR) (q := qv) (loose := looseT) (Xt := XtT) (XP := fun _ _ => True) (Yf := YfT) (Ya := YaT) (N := NN) left (fun _ _ => trivial) (fun _ _ _ _ _ => trivial) (by rfl) (by rfl) (by rfl) (fun s e => recFacts_of (by rfl)) (by rfl) (by first | assumption | decide +kernel) (by decide +kernel) ⟨rfl, rfl, rfl, rfl, rfl, by decide +kernel⟩ ?_ ?_
  · exact RowW.promised_of_found (by decide +kernel)
  · intro w s₀ s₁ mg mb G hY a o pm cd doc dV kV ho hd hcd hdf hmg hg args vals as hlaid hpre hlay hrd hwell hlow
    clear hd hcd hdf
    have hlaid2 := hlaid
    wrow_args hpre hlay hrd hwell hlow
    rename_i ns _ _ _ _ _ _ _ ra its _ hL _ _ _ hI _ hcond _
    have e0 : s₀.heap = HZ w.params := congrArg Prod.fst hY
    have t0 : s₀.toks = 2332 := congrArg Prod.snd hY
    have X : Ext (HZ w.params) s₁.heap := fun b o e => hlaid2.keeps b o (by rw [e0]; exact e)
    have ea : a = 149 := by
      have h1 : mg = gmap w.params := by
        have h3 : s₁.heap.Ns 3 (gmap w.params) := (ns3 w.params).at fun o e => X _ _ e
        have h4 : s₁.heap.Ns 3 mg := G.T.g
        rw [h3.eq_nsMap, h4.eq_nsMap]
      exact law_at h1 hmg
    subst ea
    have tk : 1 ≤ s₁.toks := Nat.le_trans (by decide) (PySem.W.X.script_toks hlaid2 t0)
    have rep : RepL s₁.heap [.list (pInts ns)] [.ref ra] := ⟨.ref ra, [], rfl, ⟨ra, its, rfl, ⟨_, PySem.W.X.script_obj hlaid2 hL⟩, ints_rep hI⟩, rfl⟩
    refine wpAny_mono (cl_law (w := w) (A := callerA) (s := s₁) (sc := ns) facts (by omega) X caller_ok tk rep) (fun v s' z => ?_) fun _ _ e => e
    clear hmg
    obtain ⟨rfl, k, hb⟩ := z
    obtain ⟨h', tk', gs', rfl, e1, l1⟩ := k
    refine ⟨.inl ⟨.bool true, .bool true, [], rfl, fun cls => by rfl, .bool true, postW_of (by rfl) (w_eq_bool (w_res rfl) w_lit) (by w_fin), fun _ => ⟨List.nodup_nil, fun a h => by cases h⟩⟩, OldK.of_keep fun b o e => e1 b o (by simp) e, rfl, hb (AllBare.of_eq hg)⟩
end T55

end
set_option maxRecDepth 100000 in
set_option maxHeartbeats 0 in
theorem PySem.Challenge.cw_to0055_01_holds : PySem.Challenge.rw_to0055_01.Holds := by
  exact T55.holds_law
