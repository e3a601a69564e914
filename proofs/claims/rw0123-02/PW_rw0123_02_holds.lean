import PyProof.Rows.All
import PyProof.IsiPairs
import KE.KLam
import Wide.All
import OpenK.AllK
import Wide.FinOn
import PySem.Challenge.RW_rw0123_02
section
open PySem PySem.W
set_option Elab.async false
set_option linter.unusedVariables false
namespace Mine
noncomputable def CallGo (tb : String → Option Builtin) (prog : Program) (w : World) (n₀ : Nat) (ann : Option Value) (c : Code) (m : Nat) (s : Shared) (r : Result) (s' : Shared) : Prop :=
  ∀ (h : Option Value) (g : Bool) (l : List Value) (k : Result → Sem Fin) (code : Code) (pos : Pos) (fr : Frame) (B : List Frame) (N : Nat) (z : Shared),
    topRun tb prog w n₀ ann N s' ⟨k r, code, pos, fr :: B⟩ = some z → topRun tb prog w n₀ ann (m + N) s ⟨.call c h g l k, code, pos, fr :: B⟩ = some z
section
variable (tb : String → Option Builtin) (prog : Program) (w : World) (n₀ : Nat) (ann : Option Value)
noncomputable def gx {α : Type} : Sem α → (α → Pos → Shared → Nat → Prop) → Pos → Shared → Nat → Prop
  | .pure a, Q, p, s, n => Q a p s n
  | .rule _ k, Q, p, s, n => gx (k ()) Q p s (n + 1)
  | .at p' k, Q, _, s, n => gx (k ()) Q p' s (n + 1)
  | .load a _ k, Q, p, s, n => ∃ o, s.heap.get? a = some o ∧ gx (k o) Q p s (n + 1)
  | .update a _ f k, Q, p, s, n => (n₀ ≤ a ∨ a = mainNs) ∧ (s.heap.get? a).isSome = true ∧ gx (k ()) Q p { s with heap := s.heap.update a f } (n + 1)
  | .alloc o k, Q, p, s, n => gx (k s.heap.objs.size) Q p { s with heap := s.heap.push o } (n + 1)
  | .fresh k, Q, p, s, n => gx (k s.toks) Q p { s with toks := s.toks + 1 } (n + 1)
  | .ask k, Q, p, s, n => gx (k ⟨prog, w.params⟩) Q p s (n + 1)
  | .point _ k, Q, p, s, n => gx (k ()) Q p s (n + 1)
  | .call c _ _ _ k, Q, p, s, n => ∃ m r s', CallGo tb prog w n₀ ann c m s r s' ∧ gx (k r) Q p s' (n + m)
  | _, _, _, _, _ => False
end
section
variable {tb : String → Option Builtin} {prog : Program} {w : World} {n₀ : Nat} {ann : Option Value} {α β : Type}
theorem gx_wrap {K : α → Sem β} {H : Value → Sem β} {gd : Bool → Bool} {lv : List Value → List Value} (x : Sem α) : ∀ {Q : β → Pos → Shared → Nat → Prop} {p : Pos} {s : Shared} {n : Nat},
    gx tb prog w n₀ ann x (fun a p s n => gx tb prog w n₀ ann (K a) Q p s n) p s n → gx tb prog w n₀ ann (x.wrap K H gd lv) Q p s n := by
  induction x with
  | pure a => intro Q p s n h; exact h
  | rule _ k ih | «at» _ k ih | point _ k ih | ask k ih | fresh k ih => intro Q p s n h; exact ih _ h
  | alloc o k ih => intro Q p s n h; exact ih _ h
  | load a _ k ih => intro Q p s n h; obtain ⟨o, e, h⟩ := h; exact ⟨o, e, ih _ h⟩
  | update a _ f k ih => intro Q p s n h; obtain ⟨e1, e2, h⟩ := h; exact ⟨e1, e2, ih _ h⟩
  | call c h g l k ih => intro Q p s n h; obtain ⟨m, r, s', e, h⟩ := h; exact ⟨m, r, s', e, ih _ h⟩
  | _ => intro Q p s n h; exact h.elim
theorem gx_bind {x : Sem α} {f : α → Sem β} {Q : β → Pos → Shared → Nat → Prop} {p : Pos} {s : Shared} {n : Nat}
    (h : gx tb prog w n₀ ann x (fun a p s n => gx tb prog w n₀ ann (f a) Q p s n) p s n) : gx tb prog w n₀ ann (x >>= f) Q p s n := by
  rw [Sem.bind_eq_wrap']; exact gx_wrap x h
theorem gx_mono (x : Sem α) : ∀ {Q Q' : α → Pos → Shared → Nat → Prop} {p : Pos} {s : Shared} {n : Nat}, gx tb prog w n₀ ann x Q p s n → (∀ a p s n, Q a p s n → Q' a p s n) → gx tb prog w n₀ ann x Q' p s n := by
  induction x with
  | pure a => intro Q Q' p s n h q; exact q _ _ _ _ h
  | rule _ k ih | «at» _ k ih | point _ k ih | ask k ih | fresh k ih => intro Q Q' p s n h q; exact ih _ h q
  | alloc o k ih => intro Q Q' p s n h q; exact ih _ h q
  | load a _ k ih => intro Q Q' p s n h q; obtain ⟨o, e, h⟩ := h; exact ⟨o, e, ih _ h q⟩
  | update a _ f k ih => intro Q Q' p s n h q; obtain ⟨e1, e2, h⟩ := h; exact ⟨e1, e2, ih _ h q⟩
  | call c h g l k ih => intro Q Q' p s n h q; obtain ⟨m, r, s', e, h⟩ := h; exact ⟨m, r, s', e, ih _ h q⟩
  | _ => intro Q Q' p s n h q; exact h.elim
theorem gx_keep {vs : List Value} (x : Sem α) : ∀ {Q : α → Pos → Shared → Nat → Prop} {p : Pos} {s : Shared} {n : Nat}, gx tb prog w n₀ ann x Q p s n → gx tb prog w n₀ ann (x.keep vs) Q p s n := by
  induction x with
  | pure a => intro Q p s n h; exact h
  | rule _ k ih | «at» _ k ih | point _ k ih | ask k ih | fresh k ih => intro Q p s n h; exact ih _ h
  | alloc o k ih => intro Q p s n h; exact ih _ h
  | load a _ k ih => intro Q p s n h; obtain ⟨o, e, h⟩ := h; exact ⟨o, e, ih _ h⟩
  | update a _ f k ih => intro Q p s n h; obtain ⟨e1, e2, h⟩ := h; exact ⟨e1, e2, ih _ h⟩
  | call c h g l k ih => intro Q p s n h; obtain ⟨m, r, s', e, h⟩ := h; exact ⟨m, r, s', e, ih _ h⟩
  | _ => intro Q p s n h; exact h.elim
theorem gx_holding {vs : List Value} {x : Sem α} {Q : α → Pos → Shared → Nat → Prop} {p : Pos} {s : Shared} {n : Nat} (h : gx tb prog w n₀ ann x Q p s n) : gx tb prog w n₀ ann (holding vs x) Q p s n := by
  unfold holding
  split
  · exact h
  · exact gx_keep x h
theorem gx_onRaise {g : Value → Sem Unit} (x : Sem α) : ∀ {Q : α → Pos → Shared → Nat → Prop} {p : Pos} {s : Shared} {n : Nat}, gx tb prog w n₀ ann x Q p s n → gx tb prog w n₀ ann (x.onRaise g) Q p s n := by
  induction x with
  | pure a => intro Q p s n h; exact h
  | rule _ k ih | «at» _ k ih | point _ k ih | ask k ih | fresh k ih => intro Q p s n h; exact ih _ h
  | alloc o k ih => intro Q p s n h; exact ih _ h
  | load a _ k ih => intro Q p s n h; obtain ⟨o, e, h⟩ := h; exact ⟨o, e, ih _ h⟩
  | update a _ f k ih => intro Q p s n h; obtain ⟨e1, e2, h⟩ := h; exact ⟨e1, e2, ih _ h⟩
  | call c h g l k ih => intro Q p s n h; obtain ⟨m, r, s', e, h⟩ := h; exact ⟨m, r, s', e, ih _ h⟩
  | _ => intro Q p s n h; exact h.elim
theorem top_step {s s' z : Shared} {cur cur' : Sem Fin} {c : Code} {p p' : Pos} {fr : Frame} {B : List Frame} {N : Nat} (hk : stepOk n₀ ann ⟨cur, c, p, fr :: B⟩ = true)
    (hs : step (denote tb) prog w s ⟨cur, c, p, fr :: B⟩ = .go s' ⟨cur', c, p', fr :: B⟩) (h : topRun tb prog w n₀ ann N s' ⟨cur', c, p', fr :: B⟩ = some z) :
    topRun tb prog w n₀ ann (N + 1) s ⟨cur, c, p, fr :: B⟩ = some z := by
  unfold topRun
  have : through ⟨cur, c, p, fr :: B⟩ = false := rfl
  rw [this]
  simp only [hk, hs]
  exact h
theorem gx_top (x : Sem α) : ∀ {Q : α → Pos → Shared → Nat → Prop} {p : Pos} {s : Shared} {n : Nat}, gx tb prog w n₀ ann x Q p s n → ∃ m a p' s', Q a p' s' (n + m) ∧
    ∀ (K : α → Sem Fin) (H : Value → Sem Fin) (gd : Bool → Bool) (lv : List Value → List Value) (c : Code) (fr : Frame) (B : List Frame) (N : Nat) (z : Shared),
      topRun tb prog w n₀ ann N s' ⟨K a, c, p', fr :: B⟩ = some z → topRun tb prog w n₀ ann (m + N) s ⟨x.wrap K H gd lv, c, p, fr :: B⟩ = some z := by
  induction x with
  | pure a => intro Q p s n h; exact ⟨0, a, p, s, h, fun K H gd lv c fr B N z hz => by rw [Nat.zero_add]; exact hz⟩
  | rule _ k ih | «at» _ k ih | point _ k ih | ask k ih | fresh k ih | alloc o k ih =>
    intro Q p s n h
    obtain ⟨m, a, p', s', q, hz⟩ := ih _ h
    refine ⟨m + 1, a, p', s', by rw [show n + (m + 1) = n + 1 + m by omega]; exact q, fun K H gd lv c fr B N z h => ?_⟩
    rw [show m + 1 + N = m + N + 1 by omega]
    exact top_step rfl rfl (hz K H gd lv c fr B N z h)
  | load a _ k ih =>
    intro Q p s n h
    obtain ⟨o, e, h⟩ := h
    obtain ⟨m, a, p', s', q, hz⟩ := ih _ h
    refine ⟨m + 1, a, p', s', by rw [show n + (m + 1) = n + 1 + m by omega]; exact q, fun K H gd lv c fr B N z h => ?_⟩
    rw [show m + 1 + N = m + N + 1 by omega]
    refine top_step rfl ?_ (hz K H gd lv c fr B N z h)
    obtain ⟨heap, gens, drawn, toks, os⟩ := s
    simp only [Sem.wrap, step, e]
  | update a _ f k ih =>
    intro Q p s n h
    obtain ⟨e1, e2, h⟩ := h
    obtain ⟨m, b, p', s', q, hz⟩ := ih _ h
    refine ⟨m + 1, b, p', s', by rw [show n + (m + 1) = n + 1 + m by omega]; exact q, fun K H gd lv c fr B N z h => ?_⟩
    rw [show m + 1 + N = m + N + 1 by omega]
    refine top_step ?_ ?_ (hz K H gd lv c fr B N z h)
    · show (Nat.ble n₀ a || a == mainNs || a == cStatics || ann == some (.ref a)) = true
      rcases e1 with e1 | e1
      · rw [Nat.ble_eq.mpr e1]; rfl
      · subst e1; simp
    · obtain ⟨heap, gens, drawn, toks, os⟩ := s
      simp only [Sem.wrap, step]
      exact if_pos e2
  | call c h g l k ih =>
    intro Q p s n h
    obtain ⟨m₁, r, s₁, e, h⟩ := h
    obtain ⟨m, a, p', s', q, hz⟩ := ih _ h
    refine ⟨m₁ + m, a, p', s', by rw [← Nat.add_assoc]; exact q, fun K H gd lv c fr B N z h => ?_⟩
    rw [Nat.add_assoc]
    exact e _ _ _ _ c p fr B (m + N) z (hz K H gd lv c fr B N z h)
  | _ => intro Q p s n h; exact h.elim
end
end Mine
end
section
open PySem PySem.W
set_option Elab.async false
set_option linter.unusedVariables false
namespace Mine
section
variable {tb : String → Option Builtin} {prog : Program} {w : World} {n₀ : Nat} {ann : Option Value} {p : Pos} {s : Shared} {n : Nat}
theorem top_go {s s' z : Shared} {t t' : Thread} {N : Nat} (ht : through t = false) (hk : stepOk n₀ ann t = true)
    (hs : step (denote tb) prog w s t = .go s' t') (h : topRun tb prog w n₀ ann N s' t' = some z) :
    topRun tb prog w n₀ ann (N + 1) s t = some z := by
  unfold topRun
  rw [ht]
  simp only [hk, hs]
  exact h
theorem call_hash_eq (i : Int) (t : Tok) : denote treeTable (.call (.builtin "int.__hash__") ⟨[.int i t], []⟩) = .pure (.again (.builtin "int.__hash__" ⟨[.int i t], []⟩)) := by
  kernel_rfl
theorem hash_eq (i : Int) (t : Tok) : denote treeTable (.builtin "int.__hash__" ⟨[.int i t], []⟩) = .fresh fun u => .pure (.done (.ret (.int (rawHash i) u))) := by
  have e : entryFor treeTable "int.__hash__" = some Builtin.«int.__hash__» := by rw [← table_eq_tree]; exact entry_int_hash
  unfold denote
  simp only [e]
  rfl
theorem hash_go (i : Int) (t : Tok) (s : Shared) : CallGo treeTable prog w n₀ ann (.call (.builtin "int.__hash__") ⟨[.int i t], []⟩) 4 s (.ok (.ret (.int (rawHash i) s.toks))) { s with toks := s.toks + 1 } := by
  intro h g l k code pos fr B N z hz
  obtain ⟨heap, gens, drawn, toks, os⟩ := s
  rw [Nat.add_comm]
  refine top_go (t' := ⟨denote treeTable (.call (.builtin "int.__hash__") ⟨[.int i t], []⟩), .call (.builtin "int.__hash__") ⟨[.int i t], []⟩, pos, _⟩) rfl rfl rfl ?_
  rw [call_hash_eq]
  refine top_go (t' := ⟨denote treeTable (.builtin "int.__hash__" ⟨[.int i t], []⟩), .builtin "int.__hash__" ⟨[.int i t], []⟩, pos, _⟩) rfl (by kernel_rfl) rfl ?_
  rw [hash_eq]
  refine top_go rfl rfl rfl ?_
  refine top_go rfl rfl rfl ?_
  exact hz
theorem gx_bind' {α β : Type} {x : Sem α} {f : α → Sem β} {Q : β → Pos → Shared → Nat → Prop}
    (h : gx tb prog w n₀ ann x (fun a p s n => gx tb prog w n₀ ann (f a) Q p s n) p s n) : gx tb prog w n₀ ann (x.bind f) Q p s n := gx_bind h
theorem gx_hash {i : Int} {t : Tok} {Q : Int → Pos → Shared → Nat → Prop} (h : Q (hashInt i) p { s with toks := s.toks + 1 } (n + 5)) : gx treeTable prog w n₀ ann (pyHash (.int i t)) Q p s n := by
  have hr := rawHash_range i
  have e1 : specialOf (.int i t) (Str.ofString "__hash__") = pure (some (.builtin "int.__hash__")) := by
    unfold specialOf
    show (pure (Value.type "int") >>= fun T => typeLookup T "__hash__") = _
    exact slot_int_hash.lookup
  have hv : [Value.int i t].any Value.onHeap = false := rfl
  have e2 : ∀ (refuse : Sem Value) (R : Option Value → Pos → Shared → Nat → Prop) (n : Nat), R (some (.int (rawHash i) s.toks)) p { s with toks := s.toks + 1 } (n + 5) →
      gx treeTable prog w n₀ ann (callSpecialIfBoundUnlessNone? (.int i t) (Str.ofString "__hash__") refuse) R p s n := by
    intro refuse R n hR
    simp only [callSpecialIfBoundUnlessNone?, bindSpecialIfBound?, e1, pure_bind, slot_int_hash.bind]
    have fin : gx treeTable prog w n₀ ann (if (Value.builtin "int.__hash__" == Value.none) = true then (do let v ← refuse; pure (some v)) else (do let v ← call (.builtin "int.__hash__") [.int i t]; pure (some v))) R p s (n + 1) := by
      rw [if_neg (by rw [builtin_beq_none]; exact Bool.false_ne_true)]
      refine gx_bind (gx_bind ?_)
      exact ⟨4, _, _, hash_go i t s, hR⟩
    refine gx_holding (gx_bind (gx_bind ?_))
    show gx treeTable prog w n₀ ann (if _ then _ else _) _ p s (n + 1)
    split
    · exact fin
    · exact fin
  unfold pyHash pyHashByItsType
  simp only [e1, pure_bind, cRoomFor, hv]
  refine gx_bind ?_
  show gx treeTable prog w n₀ ann (if (some (Value.builtin "int.__hash__") == some Value.none) = true then _ else _) Q p s n
  rw [if_neg (by rw [beq_builtin_none]; exact Bool.false_ne_true)]
  show gx treeTable prog w n₀ ann (callSpecialIfBoundUnlessNone? (.int i t) (Str.ofString "__hash__") _ >>= _) Q p s n
  refine gx_bind (e2 _ _ _ ?_)
  show gx treeTable prog w n₀ ann (if (decide (-(2 : Int) ^ 63 ≤ rawHash i) && decide (rawHash i < 2 ^ 63)) = true then _ else _) Q p _ _
  rw [if_pos (by rw [decide_eq_true hr.1, decide_eq_true hr.2]; rfl)]
  exact h
theorem gx_find {d : Addr} {o : Obj} {es : Array DictEntry} {ep : Nat} {i : Int} {t : Tok} {h : Int} {Q : Option Nat → Pos → Shared → Nat → Prop} (ho : s.heap.get? d = some o) (hd : o.data = .dict es ep) (hno : ∀ e ∈ es, e.hash ≠ h)
    (hQ : Q none p s (n + 1)) : gx tb prog w n₀ ann (dictFind d (.int i t) h) Q p s n := by
  have hp : placesWithHash es.size (fun i => es[i]?.map (·.hash)) h = [] := by
    unfold placesWithHash
    rw [List.filter_eq_nil_iff]
    intro j hj q
    rw [List.mem_range] at hj
    simp only [Array.getElem?_eq_getElem hj, Option.map_some, beq_iff_eq, Option.some.injEq] at q
    exact hno _ (Array.getElem_mem hj) q
  unfold dictFind
  refine gx_holding (gx_bind ?_)
  unfold dictEntries
  refine gx_bind ⟨o, ho, ?_⟩
  show gx tb prog w n₀ ann (match o.data with | .dict es _ => pure es | _ => PySem.unsupported "internal:not-a-dict") _ _ _ _
  rw [hd]
  show gx tb prog w n₀ ann (if ((Value.int i t :: (placesWithHash es.size (fun i => es[i]?.map (·.hash)) h).filterMap fun i => es[i]?.map (·.key)).all carriedByValue) = true then _ else _) _ _ _ _
  have hall : ((Value.int i t :: (placesWithHash es.size (fun i => es[i]?.map (·.hash)) h).filterMap fun i => es[i]?.map (·.key)).all carriedByValue) = true := by rw [hp]; rfl
  rw [if_pos hall, hp]
  exact gx_bind hQ
theorem gx_push {d : Addr} {o : Obj} {es : Array DictEntry} {ep : Nat} {e : DictEntry} {part : Option Value} {Q : Unit → Pos → Shared → Nat → Prop} (ho : s.heap.get? d = some o) (hd : o.data = .dict es ep) (hn : n₀ ≤ d) (hsz : es.size < sizeLine)
    (hQ : Q () p { s with heap := s.heap.update d (Obj.mapDictKeys (·.push e)) } (n + 3)) : gx tb prog w n₀ ann (updateDictKeys d (·.push e) part) Q p s n := by
  unfold updateDictKeys
  refine gx_bind ⟨o, ho, ?_⟩
  show gx tb prog w n₀ ann (match o.data with | .dict _ _ => (do updatePart d part (Obj.mapDictKeys (·.push e)); lookBehind d part) | _ => PySem.unsupported "internal:write-to-non-dict") _ _ _ _
  rw [hd]
  refine gx_bind ⟨.inl hn, by rw [ho]; rfl, ?_⟩
  have h2 : (s.heap.update d (Obj.mapDictKeys (·.push e))).get? d = some (o.mapDictKeys (·.push e)) := by
    refine Heap.get?_update_self _ ho ?_
    obtain ⟨c, dd, dt, sl⟩ := o
    cases hd; rfl
  refine gx_bind ⟨_, h2, ?_⟩
  have h3 : (o.mapDictKeys (·.push e)).data = .dict (es.push e) (ep + 1) := by
    obtain ⟨c, dd, dt, sl⟩ := o
    cases hd; rfl
  show gx tb prog w n₀ ann (match (o.mapDictKeys (·.push e)).data.pastItsLine with | some what => PySem.unsupported what | _ => pure ()) _ _ _ _
  rw [h3]
  have h4 : (Data.dict (es.push e) (ep + 1)).pastItsLine = none := by
    show (if (es.push e).size > sizeLine + 1 then some "dict:memory" else none) = none
    rw [if_neg (by rw [Array.size_push]; omega)]
  rw [h4]
  exact hQ
theorem gx_dictSet {d : Addr} {o : Obj} {es : Array DictEntry} {ep : Nat} {i : Int} {t : Tok} {v : Value} {Q : Unit → Pos → Shared → Nat → Prop} (ho : s.heap.get? d = some o) (hd : o.data = .dict es ep) (hn : n₀ ≤ d) (hsz : es.size < sizeLine) (hno : ∀ e ∈ es, e.hash ≠ hashInt i)
    (hQ : Q () p { s with heap := s.heap.update d (Obj.mapDictKeys (·.push ⟨hashInt i, .int i t, v⟩)), toks := s.toks + 1 } (n + 10)) : gx treeTable prog w n₀ ann (dictSet d (.int i t) v) Q p s n := by
  unfold dictSet
  refine gx_holding (gx_bind (gx_hash ?_))
  unfold dictSetHashed
  refine gx_holding (gx_bind (gx_find (s := { s with toks := s.toks + 1 }) ho hd hno ?_))
  refine gx_bind ?_
  exact gx_push (s := { s with toks := s.toks + 1 }) ho hd hn hsz hQ
end
end Mine
end
section
open PySem PySem.W
set_option Elab.async false
set_option linter.unusedVariables false
namespace Mine
noncomputable def dictO (es : List DictEntry) : Obj := { cls := .type "dict", data := .dict es.toArray es.length }
noncomputable def ents : Nat → List (Int × Str) → List DictEntry
  | _, [] => []
  | T, (k, v) :: r => ⟨hashInt k, .int k T, .str v (T + 1)⟩ :: ents (T + 3) r
noncomputable def entsS : Nat → List (Int × Str) → List DictEntry
  | _, [] => []
  | T, (k, v) :: r => ⟨hashInt k, .int k T, .str v (T + 1)⟩ :: entsS (T + 2) r
noncomputable def constT (v : Tok → Value) : Sem Value := .fresh fun t => .pure (v t)
noncomputable def pairT (pos : Pos) (kv : Int × Str) : Sem Value × Sem Value := (constT (.int kv.1), do let x ← constT (.str kv.2); standAt pos; pure x)
example (i : Int) (k : Nat) (p : Pos) (env : Env) : eval (.Constant (.int i) k p) env = constT (.int i) := rfl
example (i : Str) (k : Nat) (p : Pos) (env : Env) : eval (.Constant (.str i) k p) env = constT (.str i) := rfl
theorem push_update (h : Heap) (o : Obj) (f : Obj → Obj) : (h.push o).update h.objs.size f = h.push (f o) := by
  obtain ⟨objs, l⟩ := h
  show Heap.mk ((objs.push o).modify objs.size f) l = Heap.mk (objs.push (f o)) l
  congr 1
  apply Array.ext_getElem?
  intro i
  rw [Array.getElem?_modify, Array.getElem?_push, Array.getElem?_push]
  by_cases e : i = objs.size
  · subst e; simp
  · by_cases h : objs.size = i
    · exact absurd h.symm e
    · simp [e, h]
theorem update_const {h : Heap} {d : Addr} {o : Obj} (ho : h.get? d = some o) (f : Obj → Obj) : h.update d f = h.update d (fun _ => f o) := by
  obtain ⟨objs, l⟩ := h
  have e : objs[d]? = some o := by
    unfold Heap.get? at ho
    revert ho
    split
    · intro q; cases q
    · intro q; exact q
  show Heap.mk (objs.modify d f) l = Heap.mk (objs.modify d fun _ => f o) l
  congr 1
  apply Array.ext_getElem?
  intro i
  rw [Array.getElem?_modify, Array.getElem?_modify]
  by_cases q : d = i
  · subst q; rw [if_pos rfl, if_pos rfl, e]; rfl
  · rw [if_neg q, if_neg q]
theorem update_update (h : Heap) (d : Addr) (f g : Obj → Obj) : (h.update d f).update d g = h.update d (fun o => g (f o)) := by
  obtain ⟨objs, l⟩ := h
  show Heap.mk ((objs.modify d f).modify d g) l = Heap.mk (objs.modify d _) l
  congr 1
  apply Array.ext_getElem?
  intro i
  rw [Array.getElem?_modify, Array.getElem?_modify, Array.getElem?_modify]
  by_cases q : d = i
  · subst q; simp; rfl
  · simp [q]
theorem dictO_push (es : List DictEntry) (e : DictEntry) : (dictO es).mapDictKeys (·.push e) = dictO (es ++ [e]) := by
  unfold dictO Obj.mapDictKeys
  simp
theorem dictO_get (h : Heap) (es : List DictEntry) : (h.push (dictO es)).get? h.objs.size = some (dictO es) := Heap.get?_push_size _ rfl
noncomputable def Apart (es : List DictEntry) (kvs : List (Int × Str)) : Prop := (kvs.map fun kv => hashInt kv.1).Nodup ∧ ∀ e ∈ es, ∀ kv ∈ kvs, e.hash ≠ hashInt kv.1
theorem Apart.head {es : List DictEntry} {k : Int} {v : Str} {r : List (Int × Str)} (h : Apart es ((k, v) :: r)) : ∀ e ∈ es.toArray, e.hash ≠ hashInt k := fun e he => h.2 e (by simpa using he) _ (.head _)
theorem Apart.tail {es : List DictEntry} {k : Int} {v : Str} {r : List (Int × Str)} (h : Apart es ((k, v) :: r)) (a b : Value) : Apart (es ++ [⟨hashInt k, a, b⟩]) r := by
  obtain ⟨h1, h2⟩ := h
  rw [List.map_cons, List.nodup_cons] at h1
  refine ⟨h1.2, fun e he kv hkv => ?_⟩
  rcases List.mem_append.mp he with he | he
  · exact h2 e he kv (.tail _ hkv)
  · obtain rfl := List.mem_singleton.mp he
    intro q
    exact h1.1 (List.mem_map.mpr ⟨kv, hkv, q.symm⟩)
section
variable {prog : Program} {w : World} {n₀ : Nat} {ann : Option Value} {p : Pos} {s : Shared} {n : Nat}
theorem gx_setLast {es : List DictEntry} {h : Heap} {i : Int} {t : Tok} {v : Value} {Q : Unit → Pos → Shared → Nat → Prop} (hs : s.heap = h.push (dictO es)) (hn : n₀ ≤ h.objs.size) (hsz : es.length < sizeLine) (hno : ∀ e ∈ es.toArray, e.hash ≠ hashInt i)
    (hQ : Q () p { s with heap := h.push (dictO (es ++ [⟨hashInt i, .int i t, v⟩])), toks := s.toks + 1 } (n + 10)) : gx treeTable prog w n₀ ann (dictSet h.objs.size (.int i t) v) Q p s n := by
  refine gx_dictSet (o := dictO es) (es := es.toArray) (ep := es.length) (by rw [hs]; exact dictO_get _ _) rfl hn (by simpa using hsz) hno ?_
  have e : s.heap.update h.objs.size (Obj.mapDictKeys (·.push ⟨hashInt i, .int i t, v⟩)) = h.push (dictO (es ++ [⟨hashInt i, .int i t, v⟩])) := by
    rw [hs, push_update, dictO_push]
  rw [e]; exact hQ
theorem gx_long {pos : Pos} {h : Heap} (hn : n₀ ≤ h.objs.size) : ∀ (kvs : List (Int × Str)) (es : List DictEntry) (s : Shared) (p : Pos) (n : Nat) (Q : PUnit → Pos → Shared → Nat → Prop), s.heap = h.push (dictO es) → Apart es kvs → es.length + kvs.length < sizeLine →
    (∀ p' , (kvs = [] → p' = p) → (kvs ≠ [] → p' = pos) → Q ⟨⟩ p' { s with heap := h.push (dictO (es ++ ents s.toks kvs)), toks := s.toks + 3 * kvs.length } (n + 13 * kvs.length)) →
    gx treeTable prog w n₀ ann (forIn (kvs.map (pairT pos)) PUnit.unit fun (x : Sem Value × Sem Value) (_ : PUnit) => (do let kv ← x.1; let vv ← holding [kv] x.2; holding [kv, vv] (dictSet h.objs.size kv vv); pure (ForInStep.yield PUnit.unit) : Sem (ForInStep PUnit))) Q p s n
  | [], es, s, p, n, Q, hs, ha, hsz, hQ => by
    rw [List.map_nil, List.forIn_nil]
    have := hQ p (fun _ => rfl) (fun q => absurd rfl q)
    have e : s = { s with heap := h.push (dictO (es ++ ents s.toks [])), toks := s.toks + 3 * ([] : List (Int × Str)).length } := by
      obtain ⟨a, b, c, d, f⟩ := s
      dsimp only at hs
      simp [ents, hs]
    rw [← e] at this
    exact this
  | (k, v) :: r, es, s, p, n, Q, hs, ha, hsz, hQ => by
    rw [List.map_cons, List.forIn_cons]
    refine gx_bind (gx_bind ?_)
    refine gx_bind (gx_holding (gx_bind ?_))
    refine gx_bind ?_
    refine gx_bind (gx_holding (gx_setLast (s := { s with toks := s.toks + 1 + 1 }) hs hn (by simp at hsz; omega) ha.head ?_))
    refine gx_long hn r _ _ _ _ Q rfl (ha.tail _ _) (by simp at hsz ⊢; omega) fun p' h1 h2 => ?_
    have hp' : p' = pos := by
      cases r with
      | nil => exact h1 rfl
      | cons _ _ => exact h2 (by simp)
    have := hQ p' (fun q => by cases q) (fun _ => hp')
    simp only [List.length_cons, ents, List.append_assoc, List.cons_append, List.nil_append] at this ⊢
    have e1 : n + 13 * (r.length + 1) = n + 1 + 1 + 1 + 10 + 13 * r.length := by omega
    have e2 : s.toks + 3 * (r.length + 1) = s.toks + 1 + 1 + 1 + 3 * r.length := by omega
    rw [e1, e2] at this
    exact this
end
end Mine
end
section
open PySem PySem.W
set_option Elab.async false
set_option linter.unusedVariables false
namespace Mine
section
variable {prog : Program} {w : World} {n₀ : Nat} {ann : Option Value} {p : Pos} {s : Shared} {n : Nat}
theorem gx_pure {α : Type} {a : α} {Q : α → Pos → Shared → Nat → Prop} (h : Q a p s n) : gx treeTable prog w n₀ ann (pure a) Q p s n := h
theorem gx_typeOf {a : Addr} {o : Obj} {Q : Value → Pos → Shared → Nat → Prop} (ho : s.heap.get? a = some o) (hQ : Q o.cls p s (n + 1)) : gx treeTable prog w n₀ ann (typeOf (.ref a)) Q p s n := ⟨o, ho, hQ⟩
theorem sub_dict : isSubtype (.type "dict") (.type "dict") = pure true := by rw [isSubtype_type]; kernel_rfl
theorem look_dict_iter : typeLookup (.type "dict") "__iter__" = pure (some (.builtin "dict.__iter__")) := by
  rw [typeLookup_type, builtinLookup_eq_fast]; kernel_rfl
theorem gx_entries {a : Addr} {o : Obj} {es : Array DictEntry} {ep : Nat} {part : Option Value} {Q : Array DictEntry → Pos → Shared → Nat → Prop} (ho : s.heap.get? a = some o) (hd : o.data = .dict es ep) (hQ : Q es p s (n + 1)) : gx treeTable prog w n₀ ann (dictEntries a part) Q p s n := by
  unfold dictEntries
  refine gx_bind ⟨o, ho, ?_⟩
  show gx treeTable prog w n₀ ann (match o.data with | .dict es _ => pure es | _ => PySem.unsupported "internal:not-a-dict") _ _ _ _
  rw [hd]; exact hQ
theorem gx_epoch {a : Addr} {o : Obj} {es : Array DictEntry} {ep : Nat} {part : Option Value} {Q : Nat → Pos → Shared → Nat → Prop} (ho : s.heap.get? a = some o) (hd : o.data = .dict es ep) (hQ : Q ep p s (n + 1)) : gx treeTable prog w n₀ ann (dictEpoch a part) Q p s n := by
  unfold dictEpoch
  refine gx_bind ⟨o, ho, ?_⟩
  show gx treeTable prog w n₀ ann (match o.data with | .dict _ n => pure n | _ => PySem.unsupported "internal:not-a-dict") _ _ _ _
  rw [hd]; exact hQ
noncomputable def IntEs (es : List DictEntry) : Prop := ∀ e ∈ es, ∃ i t, e.key = .int i t
noncomputable def ApartE (es more : List DictEntry) : Prop := (more.map (·.hash)).Nodup ∧ ∀ e ∈ es, ∀ f ∈ more, e.hash ≠ f.hash
theorem ApartE.tail {es more : List DictEntry} {e : DictEntry} (h : ApartE es (e :: more)) : ApartE (es ++ [e]) more := by
  obtain ⟨h1, h2⟩ := h
  rw [List.map_cons, List.nodup_cons] at h1
  refine ⟨h1.2, fun f hf g hg => ?_⟩
  rcases List.mem_append.mp hf with hf | hf
  · exact h2 f hf g (.tail _ hg)
  · obtain rfl := List.mem_singleton.mp hf
    intro q
    exact h1.1 (List.mem_map.mpr ⟨g, hg, q.symm⟩)
theorem update_self' {h : Heap} {d : Addr} {o : Obj} (ho : h.get? d = some o) : h.update d (fun _ => o) = h := by
  obtain ⟨objs, l⟩ := h
  have e : objs[d]? = some o := by
    unfold Heap.get? at ho
    revert ho
    split
    · intro q; cases q
    · intro q; exact q
  show Heap.mk (objs.modify d _) l = Heap.mk objs l
  congr 1
  apply Array.ext_getElem?
  intro i
  rw [Array.getElem?_modify]
  by_cases q : d = i
  · subst q; rw [if_pos rfl, e]; rfl
  · rw [if_neg q]
theorem gx_mergeLoop {d a : Addr} {h : Heap} {all : List DictEntry} (hda : d ≠ a) (hn : n₀ ≤ d) (hint : IntEs all) (hdo : ∃ o, h.get? d = some o) (ha : h.get? a = some (dictO all)) : ∀ (m k : Nat) (es : List DictEntry) (s : Shared) (n : Nat) (Q : PUnit → Pos → Shared → Nat → Prop), k + m = all.length →
    s.heap = h.update d (fun _ => dictO es) → ApartE es (all.drop k) → es.length + m < sizeLine →
    Q ⟨⟩ p { s with heap := h.update d (fun _ => dictO (es ++ all.drop k)) } (n + 6 * m) →
    gx treeTable prog w n₀ ann (forIn (List.range' k m) PUnit.unit fun (i : Nat) (_ : PUnit) => (do
      let l ← dictEntries a
      match l[i]? with
      | some e => do
        holding [e.key, e.val] (dictPut d e.hash e.key e.val)
        if (← dictEpoch a) != all.length then (unsupported "dict.changed-during-merge" : Sem PUnit)
        pure (ForInStep.yield PUnit.unit)
      | _ => do
        (unsupported "dict.changed-during-merge" : Sem PUnit)
        pure (ForInStep.yield PUnit.unit) : Sem (ForInStep PUnit))) Q p s n
  | 0, k, es, s, n, Q, hk, hs, hap, hsz, hQ => by
    rw [List.range'_zero, List.forIn_nil]
    rw [List.drop_eq_nil_of_le (by omega), List.append_nil, ← hs] at hQ
    exact hQ
  | m + 1, k, es, s, n, Q, hk, hs, hap, hsz, hQ => by
    have hlt : k < all.length := by omega
    have hdrop : all.drop k = all[k] :: all.drop (k + 1) := List.drop_eq_getElem_cons hlt
    obtain ⟨i, t, hkey⟩ := hint _ (List.getElem_mem hlt)
    have has : s.heap.get? a = some (dictO all) := by rw [hs, Heap.get?_update_other _ _ hda]; exact ha
    obtain ⟨od, hod⟩ := hdo
    have hds : s.heap.get? d = some (dictO es) := by rw [hs]; exact Heap.get?_update_self _ hod rfl
    rw [List.range'_succ, List.forIn_cons]
    refine gx_bind (gx_bind (gx_entries has rfl ?_))
    have e1 : all.toArray[k]? = some all[k] := by simp [hlt]
    simp only [e1]
    refine gx_bind (gx_holding ?_)
    unfold dictPut
    rw [hkey]
    refine gx_bind (gx_find hds rfl (fun e he => ?_) ?_)
    · rw [hdrop] at hap
      exact hap.2 e (by simpa using he) _ (.head _)
    refine gx_push hds rfl hn (by simp; omega) ?_
    have e2 : s.heap.update d (Obj.mapDictKeys (·.push ⟨all[k].hash, .int i t, all[k].val⟩)) = h.update d (fun _ => dictO (es ++ [all[k]])) := by
      rw [hs, update_update]
      congr 1
      funext _
      rw [dictO_push, ← hkey]
    rw [e2]
    have has' : (h.update d (fun _ => dictO (es ++ [all[k]]))).get? a = some (dictO all) := by rw [Heap.get?_update_other _ _ hda]; exact ha
    refine gx_bind (gx_epoch (o := dictO all) has' rfl ?_)
    have e3 : (all.length != all.length) = false := by simp
    simp only [e3, Bool.false_eq_true, ↓reduceIte]
    refine gx_pure ?_
    refine gx_mergeLoop hda hn hint ⟨od, hod⟩ ha m (k + 1) (es ++ [all[k]]) _ _ Q (by omega) rfl ?_ (by simp; omega) ?_
    · rw [hdrop] at hap; exact hap.tail
    · rw [hdrop] at hQ
      simp only [List.append_assoc, List.cons_append, List.nil_append]
      have e4 : n + 6 * (m + 1) = n + 1 + 1 + 3 + 1 + 6 * m := by omega
      rw [e4] at hQ
      exact hQ
theorem gx_merge {d a : Addr} {h : Heap} {es all : List DictEntry} {Q : Unit → Pos → Shared → Nat → Prop} (hda : d ≠ a) (hS : (a == sysModules) = false) (hn : n₀ ≤ d) (hint : IntEs all) (hs : s.heap = h) (hd : h.get? d = some (dictO es)) (he : es ≠ [])
    (ha : h.get? a = some (dictO all)) (hap : ApartE es all) (hsz : es.length + all.length < sizeLine)
    (hQ : Q () p { s with heap := h.update d (fun _ => dictO (es ++ all)) } (n + 5 + 6 * all.length)) : gx treeTable prog w n₀ ann (mergeMapping d (.ref a) false) Q p s n := by
  subst hs
  unfold mergeMapping isInstance specialOf
  refine gx_bind (gx_bind (gx_typeOf ha ?_))
  show gx treeTable prog w n₀ ann (isSubtype (.type "dict") (.type "dict")) _ _ _ _
  rw [sub_dict]
  refine gx_pure ?_
  simp only [↓reduceIte]
  refine gx_bind (gx_bind (gx_typeOf ha ?_))
  show gx treeTable prog w n₀ ann (typeLookup (.type "dict") "__iter__") _ _ _ _
  rw [look_dict_iter]
  refine gx_pure ?_
  refine gx_bind (gx_pure ?_)
  simp only [beq_self_eq_true, hS, Bool.false_eq_true, ↓reduceIte]
  refine gx_bind (gx_entries hd rfl ?_)
  have he' : es.toArray.isEmpty = false := by simpa using he
  simp only [he', Bool.false_eq_true, ↓reduceIte]
  refine gx_bind (gx_entries ha rfl ?_)
  refine gx_bind (gx_epoch ha rfl ?_)
  refine gx_bind ?_
  have e : List.range all.toArray.size = List.range' 0 all.length := by rw [List.range_eq_range']; simp
  rw [e]
  refine gx_mono _ (gx_mergeLoop (h := s.heap) (Q := fun _ => Q ()) hda hn hint ⟨_, hd⟩ ha all.length 0 es s _ (Nat.zero_add _) ?_ (by simpa using hap) hsz ?_) fun _ _ _ _ q => q
  · rw [update_self' hd]
  · simpa using hQ
end
end Mine
end
section
open PySem PySem.W
set_option Elab.async false
set_option linter.unusedVariables false
namespace Mine
noncomputable abbrev PT := Sem Value × Sem Value
section
variable {prog : Program} {w : World} {n₀ : Nat} {ann : Option Value} {p : Pos} {s : Shared} {n : Nat}
theorem ents_length : ∀ (T : Nat) (kvs : List (Int × Str)), (ents T kvs).length = kvs.length
  | _, [] => rfl
  | T, (k, v) :: r => by simp [ents, ents_length (T + 3) r]
theorem ents_append : ∀ (T : Nat) (a b : List (Int × Str)), ents T (a ++ b) = ents T a ++ ents (T + 3 * a.length) b
  | T, [], b => by simp [ents]
  | T, (k, v) :: r, b => by simp only [List.cons_append, ents, ents_append (T + 3) r b, List.length_cons]; congr 3; omega
theorem ents_hash : ∀ (T : Nat) (kvs : List (Int × Str)), (ents T kvs).map (·.hash) = kvs.map fun kv => hashInt kv.1
  | _, [] => rfl
  | T, (k, v) :: r => by simp [ents, ents_hash (T + 3) r]
theorem entsS_hash : ∀ (T : Nat) (kvs : List (Int × Str)), (entsS T kvs).map (·.hash) = kvs.map fun kv => hashInt kv.1
  | _, [] => rfl
  | T, (k, v) :: r => by simp [entsS, entsS_hash (T + 2) r]
theorem entsS_length : ∀ (T : Nat) (kvs : List (Int × Str)), (entsS T kvs).length = kvs.length
  | _, [] => rfl
  | T, (k, v) :: r => by simp [entsS, entsS_length (T + 2) r]
theorem ents_int : ∀ (T : Nat) (kvs : List (Int × Str)), IntEs (ents T kvs)
  | _, [] => fun e he => by cases he
  | T, (k, v) :: r => fun e he => by
    rcases List.mem_cons.mp he with rfl | he
    · exact ⟨_, _, rfl⟩
    · exact ents_int _ r e he
theorem entsS_int : ∀ (T : Nat) (kvs : List (Int × Str)), IntEs (entsS T kvs)
  | _, [] => fun e he => by cases he
  | T, (k, v) :: r => fun e he => by
    rcases List.mem_cons.mp he with rfl | he
    · exact ⟨_, _, rfl⟩
    · exact entsS_int _ r e he
theorem apart_of {es more : List DictEntry} {kvs : List (Int × Str)} (e : more.map (·.hash) = kvs.map fun kv => hashInt kv.1) (h : Apart es kvs) : ApartE es more := by
  refine ⟨e ▸ h.1, fun a ha b hb => ?_⟩
  have : b.hash ∈ more.map (·.hash) := List.mem_map_of_mem hb
  rw [e] at this
  obtain ⟨kv, hkv, q⟩ := List.mem_map.mp this
  rw [← q]; exact h.2 a ha kv hkv
theorem gx_subLong {pos : Pos} {kvs : List (Int × Str)} {Q : Addr → Pos → Shared → Nat → Prop} (h15 : 15 < kvs.length) (hn : n₀ ≤ s.heap.objs.size) (ha : Apart [] kvs) (hsz : kvs.length < sizeLine)
    (hQ : Q s.heap.objs.size pos { s with heap := s.heap.push (dictO (ents s.toks kvs)), toks := s.toks + 3 * kvs.length } (n + 2 + 13 * kvs.length)) : gx treeTable prog w n₀ ann (subDict (kvs.map (pairT pos))) Q p s n := by
  unfold subDict
  refine gx_bind ?_
  refine gx_bind (gx_holding ?_)
  rw [if_neg (by simp; omega)]
  refine gx_bind ?_
  refine gx_bind ?_
  refine gx_mono _ (gx_long (h := s.heap) hn kvs [] { s with heap := s.heap.push (dictO []) } p (n + 1 + 1) (fun _ p' s' n' => Q s.heap.objs.size p' s' n') rfl ha (by simpa using hsz) fun p' h1 h2 => ?_) fun a p s n q => q
  have : kvs ≠ [] := by rintro rfl; simp at h15
  rw [h2 this]
  simpa using hQ
theorem gx_evalPairs {pos : Pos} : ∀ (kvs : List (Int × Str)) (s : Shared) (p : Pos) (n : Nat) (Q : List (Value × Value) → Pos → Shared → Nat → Prop),
    (∀ p', (kvs = [] → p' = p) → (kvs ≠ [] → p' = pos) → ∀ vs, vs = (entsS s.toks kvs).map (fun e => (e.key, e.val)) → Q vs p' { s with toks := s.toks + 2 * kvs.length } (n + 3 * kvs.length)) →
    gx treeTable prog w n₀ ann (evalPairs (kvs.map (pairT pos))) Q p s n
  | [], s, p, n, Q, hQ => by
    rw [List.map_nil, evalPairs]
    exact hQ p (fun _ => rfl) (fun q => absurd rfl q) [] rfl
  | (k, v) :: r, s, p, n, Q, hQ => by
    rw [List.map_cons]
    show gx treeTable prog w n₀ ann (evalPairs (((pairT pos (k, v)).1, (pairT pos (k, v)).2) :: _)) _ _ _ _
    rw [evalPairs]
    refine gx_bind ?_
    refine gx_bind (gx_holding (gx_bind ?_))
    refine gx_bind ?_
    refine gx_bind (gx_holding (gx_evalPairs r _ _ _ _ fun p' h1 h2 vs hvs => ?_))
    subst hvs
    have hp' : p' = pos := by
      cases r with
      | nil => exact h1 rfl
      | cons _ _ => exact h2 (by simp)
    have := hQ p' (fun q => by cases q) (fun _ => hp') _ rfl
    simp only [List.length_cons, entsS, List.map_cons] at this ⊢
    have e1 : n + 3 * (r.length + 1) = n + 1 + 1 + 1 + 3 * r.length := by omega
    have e2 : s.toks + 2 * (r.length + 1) = s.toks + 1 + 1 + 2 * r.length := by omega
    rw [e1, e2] at this
    exact this
theorem gx_storeShort {h : Heap} (hn : n₀ ≤ h.objs.size) : ∀ (more es : List DictEntry) (s : Shared) (n : Nat) (Q : PUnit → Pos → Shared → Nat → Prop), s.heap = h.push (dictO es) → (∀ e ∈ more, ∃ i t, e.key = .int i t ∧ e.hash = hashInt i) → ApartE es more → es.length + more.length < sizeLine →
    Q ⟨⟩ p { s with heap := h.push (dictO (es ++ more)), toks := s.toks + more.length } (n + 10 * more.length) →
    gx treeTable prog w n₀ ann (forIn (more.map fun e => (e.key, e.val)) PUnit.unit fun (x : Value × Value) (_ : PUnit) => (do dictSet h.objs.size x.1 x.2; pure (ForInStep.yield PUnit.unit) : Sem (ForInStep PUnit))) Q p s n
  | [], es, s, n, Q, hs, hk, ha, hsz, hQ => by
    rw [List.map_nil, List.forIn_nil]
    rw [List.append_nil, ← hs] at hQ
    exact hQ
  | e :: r, es, s, n, Q, hs, hk, ha, hsz, hQ => by
    obtain ⟨i, t, hkey, hh⟩ := hk e (.head _)
    have he : (⟨hashInt i, .int i t, e.val⟩ : DictEntry) = e := by rw [← hkey, ← hh]
    rw [List.map_cons, List.forIn_cons]
    refine gx_bind (gx_bind ?_)
    rw [hkey]
    refine gx_setLast hs hn (by simp at hsz; omega) (fun f hf => by rw [← hh]; exact ha.2 f (by simpa using hf) e (.head _)) ?_
    rw [he]
    refine gx_storeShort hn r (es ++ [e]) _ _ Q rfl (fun f hf => hk f (.tail _ hf)) ha.tail (by simp at hsz ⊢; omega) ?_
    simp only [List.length_cons, List.append_assoc, List.cons_append, List.nil_append] at hQ ⊢
    have e1 : n + 10 * (r.length + 1) = n + 10 + 10 * r.length := by omega
    have e2 : s.toks + (r.length + 1) = s.toks + 1 + r.length := by omega
    rw [e1, e2] at hQ
    exact hQ
theorem entsS_keys : ∀ (T : Nat) (kvs : List (Int × Str)), ∀ e ∈ entsS T kvs, ∃ i t, e.key = .int i t ∧ e.hash = hashInt i
  | _, [] => fun e he => by cases he
  | T, (k, v) :: r => fun e he => by
    rcases List.mem_cons.mp he with rfl | he
    · exact ⟨_, _, rfl, rfl⟩
    · exact entsS_keys _ r e he
theorem gx_subShort {pos : Pos} {kvs : List (Int × Str)} {Q : Addr → Pos → Shared → Nat → Prop} (h15 : kvs.length ≤ 15) (h0 : kvs ≠ []) (hn : n₀ ≤ s.heap.objs.size) (ha : Apart [] kvs)
    (hQ : Q s.heap.objs.size pos { s with heap := s.heap.push (dictO (entsS s.toks kvs)), toks := s.toks + 3 * kvs.length } (n + 1 + 13 * kvs.length)) : gx treeTable prog w n₀ ann (subDict (kvs.map (pairT pos))) Q p s n := by
  unfold subDict
  refine gx_bind ?_
  refine gx_bind (gx_holding ?_)
  rw [if_pos (by simpa using h15)]
  refine gx_bind (gx_evalPairs kvs _ _ _ _ fun p' h1 h2 vs hvs => ?_)
  subst hvs
  rw [h2 h0]
  refine gx_holding (gx_bind ?_)
  refine gx_mono _ (gx_storeShort (h := s.heap) hn (entsS s.toks kvs) [] { s with heap := s.heap.push (dictO []), toks := s.toks + 2 * kvs.length } _ (fun _ p' s' n' => Q s.heap.objs.size p' s' n') rfl (entsS_keys _ _) (apart_of (entsS_hash _ _) ha)
    (by rw [entsS_length]; simp [sizeLine]; omega) ?_) fun a p s n q => q
  rw [entsS_length]
  have e1 : n + 1 + 3 * kvs.length + 10 * kvs.length = n + 1 + 13 * kvs.length := by omega
  have e2 : s.toks + 2 * kvs.length + kvs.length = s.toks + 3 * kvs.length := by omega
  show Q _ _ { s with heap := s.heap.push (dictO ([] ++ entsS s.toks kvs)), toks := s.toks + 2 * kvs.length + kvs.length } (n + 1 + 3 * kvs.length + 10 * kvs.length)
  rw [e1, e2]
  exact hQ
end
end Mine
end
section
open PySem PySem.W
set_option Elab.async false
set_option linter.unusedVariables false
namespace Mine
noncomputable abbrev DS := Option Addr × List PT
noncomputable abbrev itemOf (p : PT) : Option (Sem Value) × Sem Value := (some p.1, p.2)
section
variable {prog : Program} {w : World} {n₀ : Nat} {ann : Option Value} {p : Pos} {s : Shared} {n : Nat}
theorem gather (f : (Option (Sem Value) × Sem Value) → DS → Sem (ForInStep DS)) (hf : ∀ (q : PT) (m : Option Addr) (run : List PT), run.length + 1 < 17 → f (itemOf q) (m, run) = pure (.yield (m, run ++ [q]))) :
    ∀ (c rest run : List PT) (m : Option Addr), run.length + c.length < 17 → forIn ((c ++ rest).map itemOf) ((m, run) : DS) f = forIn (rest.map itemOf) ((m, run ++ c) : DS) f
  | [], rest, run, m, h => by simp
  | q :: c, rest, run, m, h => by
    rw [List.cons_append, List.map_cons, List.forIn_cons, hf q m run (by simp at h; omega), pure_bind]
    have := gather f hf c rest (run ++ [q]) m (by simp at h ⊢; omega)
    simpa using this
structure Flush (f : (Option (Sem Value) × Sem Value) → DS → Sem (ForInStep DS)) : Prop where
  hold : ∀ (q : PT) (m : Option Addr) (run : List PT), run.length + 1 < 17 → f (itemOf q) (m, run) = pure (.yield (m, run ++ [q]))
  first : ∀ (q : PT) (run : List PT) {Q : ForInStep DS → Pos → Shared → Nat → Prop} {p : Pos} {s : Shared} {n : Nat} {prog : Program} {w : World} {n₀ : Nat} {ann : Option Value}, run.length + 1 = 17 →
    gx treeTable prog w n₀ ann (subDict (run ++ [q])) (fun a => Q (.yield (some a, []))) p s n → gx treeTable prog w n₀ ann (f (itemOf q) (none, run)) Q p s n
  more : ∀ (q : PT) (run : List PT) (d : Addr) {Q : ForInStep DS → Pos → Shared → Nat → Prop} {p : Pos} {s : Shared} {n : Nat} {prog : Program} {w : World} {n₀ : Nat} {ann : Option Value}, run.length + 1 = 17 →
    gx treeTable prog w n₀ ann (subDict (run ++ [q])) (fun a => gx treeTable prog w n₀ ann (mergeMapping d (.ref a) false) (fun _ => Q (.yield (some d, [])))) p s n → gx treeTable prog w n₀ ann (f (itemOf q) (some d, run)) Q p s n
theorem map17 {pos : Pos} {c : List (Int × Str)} (h : c.length = 17) : ∃ run q, c.map (pairT pos) = run ++ [q] ∧ run.length = 16 := by
  have hne : c.map (pairT pos) ≠ [] := by
    intro e
    have := congrArg List.length e
    simp [h] at this
  refine ⟨(c.map (pairT pos)).dropLast, (c.map (pairT pos)).getLast hne, (List.dropLast_concat_getLast hne).symm, by simp [h]⟩
theorem step_chunk {f : (Option (Sem Value) × Sem Value) → DS → Sem (ForInStep DS)} (F : Flush f) {pos : Pos} {c : List (Int × Str)} (hc : c.length = 17) (rest : List PT) (m : Option Addr) {Q : DS → Pos → Shared → Nat → Prop}
    (h : match m with
      | none => gx treeTable prog w n₀ ann (subDict (c.map (pairT pos))) (fun a => gx treeTable prog w n₀ ann (forIn (rest.map itemOf) ((some a, []) : DS) f) Q) p s n
      | some d => gx treeTable prog w n₀ ann (subDict (c.map (pairT pos))) (fun a => gx treeTable prog w n₀ ann (mergeMapping d (.ref a) false) (fun _ => gx treeTable prog w n₀ ann (forIn (rest.map itemOf) ((some d, []) : DS) f) Q)) p s n) :
    gx treeTable prog w n₀ ann (forIn ((c.map (pairT pos) ++ rest).map itemOf) ((m, []) : DS) f) Q p s n := by
  obtain ⟨run, q, e, hr⟩ := map17 (pos := pos) hc
  rw [e] at h
  rw [e, List.append_assoc, gather f F.hold run ([q] ++ rest) [] m (by simp [hr]), List.nil_append]
  show gx _ _ _ _ _ (forIn (itemOf q :: rest.map itemOf) _ f) _ _ _ _
  rw [List.forIn_cons]
  cases m with
  | none => exact gx_bind (F.first q run (by omega) (gx_mono _ h fun _ _ _ _ q => q))
  | some d => exact gx_bind (F.more q run d (by omega) (gx_mono _ h fun _ _ _ _ q => gx_mono _ q fun _ _ _ _ q => q))
noncomputable def laidH (h : Heap) (D : Addr) (T : Nat) : List DictEntry → List (List (Int × Str)) → Heap
  | _, [] => h
  | es, c :: cs => laidH ((h.push (dictO (ents T c))).update D (fun _ => dictO (es ++ ents T c))) D (T + 3 * c.length) (es ++ ents T c) cs
theorem laidH_get : ∀ (cs : List (List (Int × Str))) (h : Heap) (D : Addr) (T : Nat) (es : List DictEntry), h.get? D = some (dictO es) → (laidH h D T es cs).get? D = some (dictO (es ++ ents T cs.flatten))
  | [], h, D, T, es, hd => by simp [laidH, ents, hd]
  | c :: cs, h, D, T, es, hd => by
    unfold laidH
    rw [laidH_get cs _ D _ (es ++ ents T c) (Heap.get?_update_self _ (Heap.get?_push_of_some _ hd) rfl), List.flatten_cons, ents_append, List.append_assoc]
theorem size_upd (h : Heap) (a : Addr) (f : Obj → Obj) : (h.update a f).objs.size = h.objs.size := by cases h; simp [Heap.update]
theorem size_psh (h : Heap) (o : Obj) : (h.push o).objs.size = h.objs.size + 1 := by cases h; simp [Heap.push]
theorem laidH_size : ∀ (cs : List (List (Int × Str))) (h : Heap) (D : Addr) (T : Nat) (es : List DictEntry), (laidH h D T es cs).objs.size = h.objs.size + cs.length
  | [], h, D, T, es => rfl
  | c :: cs, h, D, T, es => by unfold laidH; rw [laidH_size, size_upd, size_psh, List.length_cons]; omega
theorem gx_chunks {f : (Option (Sem Value) × Sem Value) → DS → Sem (ForInStep DS)} (F : Flush f) {pos : Pos} {D : Addr} (hD : n₀ ≤ D) (hlow : sysModules < D) (r : List PT) {Q : DS → Pos → Shared → Nat → Prop} : ∀ (cs : List (List (Int × Str))) (es : List DictEntry) (s : Shared) (p : Pos) (n : Nat),
    (∀ c ∈ cs, c.length = 17) → s.heap.get? D = some (dictO es) → es ≠ [] → Apart es cs.flatten → es.length + cs.flatten.length < sizeLine →
    (∀ p', gx treeTable prog w n₀ ann (forIn (r.map itemOf) ((some D, []) : DS) f) Q p' { s with heap := laidH s.heap D s.toks es cs, toks := s.toks + 3 * cs.flatten.length } (n + 330 * cs.length)) →
    gx treeTable prog w n₀ ann (forIn (((cs.flatten).map (pairT pos) ++ r).map itemOf) ((some D, []) : DS) f) Q p s n
  | [], es, s, p, n, hl, hd, he, ha, hsz, h => by
    have := h p
    simpa [laidH] using this
  | c :: cs, es, s, p, n, hl, hd, he, ha, hsz, h => by
    have hc := hl c (.head _)
    have e0 : ((c :: cs).flatten).map (pairT pos) ++ r = c.map (pairT pos) ++ ((cs.flatten).map (pairT pos) ++ r) := by simp
    rw [e0]
    have hDs : D < s.heap.objs.size := Heap.lt_size hd
    obtain ⟨a1, a2⟩ := ha
    rw [List.flatten_cons, List.map_append, List.nodup_append] at a1
    obtain ⟨a3, a4, a5⟩ := a1
    have hac : Apart es c := ⟨a3, fun e he kv hkv => a2 e he kv (by rw [List.flatten_cons]; exact List.mem_append_left _ hkv)⟩
    simp only [List.flatten_cons, List.length_append] at hsz
    refine step_chunk F hc _ (some D) ?_
    show gx _ _ _ _ _ (subDict (c.map (pairT pos))) _ _ _ _
    refine gx_subLong (by omega) (Nat.le_trans hD (Nat.le_of_lt hDs)) ⟨hac.1, fun e he => by cases he⟩ (by omega) ?_
    refine gx_merge (h := s.heap.push (dictO (ents s.toks c))) (es := es) (all := ents s.toks c) (Nat.ne_of_lt hDs) (beq_eq_false_iff_ne.mpr (Nat.ne_of_gt (Nat.lt_trans hlow hDs))) hD (ents_int _ _) rfl (Heap.get?_push_of_some _ hd) he (dictO_get _ _) (apart_of (ents_hash _ _) hac) (by rw [ents_length]; omega) ?_
    refine gx_chunks F hD hlow r cs (es ++ ents s.toks c) _ _ _ (fun c' h' => hl c' (.tail _ h')) (Heap.get?_update_self _ (Heap.get?_push_of_some _ hd) rfl) (by simp [he]) ⟨a4, fun e he kv hkv => ?_⟩ (by rw [List.length_append, ents_length]; omega) fun p' => ?_
    · rcases List.mem_append.mp he with he | he
      · exact a2 e he kv (by rw [List.flatten_cons]; exact List.mem_append_right _ hkv)
      · have : e.hash ∈ (ents s.toks c).map (·.hash) := List.mem_map_of_mem he
        rw [ents_hash] at this
        intro q
        exact a5 _ this _ (List.mem_map_of_mem hkv) q
    · have := h p'
      have e1 : n + 2 + 13 * c.length + 5 + 6 * (ents s.toks c).length + 330 * cs.length = n + 330 * (c :: cs).length := by rw [ents_length, hc, List.length_cons]; omega
      have e2 : s.toks + 3 * (c :: cs).flatten.length = s.toks + 3 * c.length + 3 * cs.flatten.length := by rw [List.flatten_cons, List.length_append]; omega
      rw [e2] at this
      rw [e1]
      exact this
end
end Mine
end
section
open PySem PySem.W
set_option Elab.async false
set_option linter.unusedVariables false
namespace Mine
section
variable {prog : Program} {w : World} {n₀ : Nat} {ann : Option Value} {p : Pos} {s : Shared} {n : Nat}
noncomputable def dispH (h : Heap) (T : Nat) (c₀ : List (Int × Str)) (cs : List (List (Int × Str))) (r : List (Int × Str)) : Heap :=
  ((laidH (h.push (dictO (ents T c₀))) h.objs.size (T + 3 * c₀.length) (ents T c₀) cs).push (dictO (entsS (T + 3 * c₀.length + 3 * cs.flatten.length) r))).update h.objs.size
    (fun _ => dictO ((ents T c₀ ++ ents (T + 3 * c₀.length) cs.flatten) ++ entsS (T + 3 * c₀.length + 3 * cs.flatten.length) r))
theorem gx_loop {f : (Option (Sem Value) × Sem Value) → DS → Sem (ForInStep DS)} (F : Flush f) {pos : Pos} {c₀ r : List (Int × Str)} {cs : List (List (Int × Str))} {Q : DS → Pos → Shared → Nat → Prop}
    (h0 : c₀.length = 17) (hl : ∀ c ∈ cs, c.length = 17) (hr : r.length ≤ 15) (hn : n₀ ≤ s.heap.objs.size) (hlow : sysModules < s.heap.objs.size) (hnd : ((c₀ ++ cs.flatten ++ r).map fun kv => hashInt kv.1).Nodup)
    (hsz : (c₀ ++ cs.flatten ++ r).length < sizeLine)
    (hQ : ∀ p', Q (some s.heap.objs.size, r.map (pairT pos)) p' { s with heap := laidH (s.heap.push (dictO (ents s.toks c₀))) s.heap.objs.size (s.toks + 3 * c₀.length) (ents s.toks c₀) cs, toks := s.toks + 3 * c₀.length + 3 * cs.flatten.length } (n + 223 + 330 * cs.length)) :
    gx treeTable prog w n₀ ann (forIn (((c₀ ++ cs.flatten ++ r).map (pairT pos)).map itemOf) ((none, []) : DS) f) Q p s n := by
  rw [List.map_append, List.map_append, List.nodup_append] at hnd
  obtain ⟨n1, n3, n4⟩ := hnd
  rw [List.nodup_append] at n1
  obtain ⟨n1, n2, n5⟩ := n1
  simp only [List.length_append] at hsz
  have e0 : ((c₀ ++ cs.flatten ++ r).map (pairT pos)).map itemOf = (c₀.map (pairT pos) ++ ((cs.flatten).map (pairT pos) ++ r.map (pairT pos))).map itemOf := by simp
  rw [e0]
  refine step_chunk F h0 _ none ?_
  show gx _ _ _ _ _ (subDict (c₀.map (pairT pos))) _ _ _ _
  refine gx_subLong (by omega) hn ⟨n1, fun e he => by cases he⟩ (by omega) ?_
  refine gx_chunks F hn hlow _ cs (ents s.toks c₀) _ _ _ hl (dictO_get _ _) ?_ ⟨n2, fun e he kv hkv => ?_⟩ (by rw [ents_length]; omega) fun p' => ?_
  · intro q
    have := ents_length s.toks c₀
    rw [q, h0] at this
    cases this
  · have : e.hash ∈ (ents s.toks c₀).map (·.hash) := List.mem_map_of_mem he
    rw [ents_hash] at this
    exact fun q => n5 _ this _ (List.mem_map_of_mem hkv) q
  · have e1 := gather f F.hold (r.map (pairT pos)) [] [] (some s.heap.objs.size) (by simp; omega)
    rw [List.append_nil, List.map_nil, List.forIn_nil, List.nil_append] at e1
    rw [e1]
    have := hQ p'
    have e2 : n + 2 + 13 * c₀.length + 330 * cs.length = n + 223 + 330 * cs.length := by omega
    rw [e2]
    exact this
theorem gx_dict {env : Env} {keys : List (Option Expr)} {values : List Expr} {pos : Pos} {c₀ r : List (Int × Str)} {cs : List (List (Int × Str))} {Q : Value → Pos → Shared → Nat → Prop}
    (hz : (evalEachOpt keys env).zip ((evalEach values env).map fun v => do let x ← v; standAt pos; pure x) = ((c₀ ++ cs.flatten ++ r).map (pairT pos)).map itemOf)
    (h0 : c₀.length = 17) (hl : ∀ c ∈ cs, c.length = 17) (hr : r.length ≤ 15) (hr0 : r ≠ []) (hn : n₀ ≤ s.heap.objs.size) (hlow : sysModules < s.heap.objs.size) (hnd : ((c₀ ++ cs.flatten ++ r).map fun kv => hashInt kv.1).Nodup)
    (hsz : (c₀ ++ cs.flatten ++ r).length < sizeLine)
    (hQ : Q (.ref s.heap.objs.size) pos { s with heap := dispH s.heap s.toks c₀ cs r, toks := s.toks + 3 * c₀.length + 3 * cs.flatten.length + 3 * r.length } (n + 1 + 223 + 330 * cs.length + (6 + 19 * r.length))) :
    gx treeTable prog w n₀ ann (eval (.Dict keys values pos) env) Q p s n := by
  rw [arm_eval_Dict, hz]
  refine gx_bind ?_
  show gx treeTable prog w n₀ ann (dictDisplay _) Q pos s (n + 1)
  unfold dictDisplay
  dsimp only
  refine gx_bind ?_
  refine gx_loop ⟨?_, ?_, ?_⟩ h0 hl hr hn hlow hnd hsz fun p' => ?_
  · intro q m run h
    have hne : ((run ++ [q]).length == 17) = false := by simp; omega
    simp only [itemOf]
    simp only [hne, Bool.false_eq_true, if_false]
  · intro q run Q p s n prog w n₀ ann h g
    have he : ((run ++ [(q.1, q.2)]).length == 17) = true := by simp; omega
    simp only [he, if_true, List.isEmpty_iff, List.append_eq_nil_iff, List.cons_ne_nil, and_false, if_false]
    exact gx_bind (gx_bind (gx_mono _ g fun _ _ _ _ q => q))
  · intro q run d Q p s n prog w n₀ ann h g
    have he : ((run ++ [(q.1, q.2)]).length == 17) = true := by simp; omega
    simp only [he, if_true, List.isEmpty_iff, List.append_eq_nil_iff, List.cons_ne_nil, and_false, if_false]
    exact gx_bind (gx_bind (gx_holding (gx_mono _ g fun _ _ _ _ q => gx_bind (gx_onRaise _ (gx_holding (gx_mono _ q fun _ _ _ _ q => q))))))
  rw [List.map_append, List.map_append, List.nodup_append] at hnd
  obtain ⟨n1, n3, n4⟩ := hnd
  simp only [List.length_append] at hsz
  have hrn : (r.map (pairT pos)).isEmpty = false := by simpa using hr0
  simp only [hrn, Bool.false_eq_true, if_false]
  have hbig : (laidH (s.heap.push (dictO (ents s.toks c₀))) s.heap.objs.size (s.toks + 3 * c₀.length) (ents s.toks c₀) cs).get? s.heap.objs.size = some (dictO (ents s.toks c₀ ++ ents (s.toks + 3 * c₀.length) cs.flatten)) := laidH_get _ _ _ _ _ (dictO_get _ _)
  have hsize := laidH_size cs (s.heap.push (dictO (ents s.toks c₀))) s.heap.objs.size (s.toks + 3 * c₀.length) (ents s.toks c₀)
  rw [size_psh] at hsize
  refine gx_bind (gx_bind (gx_holding (gx_subShort hr hr0 (by show n₀ ≤ (laidH _ _ _ _ _).objs.size; rw [hsize]; omega) ⟨n3, fun e he => by cases he⟩ ?_)))
  have hap : ApartE (ents s.toks c₀ ++ ents (s.toks + 3 * c₀.length) cs.flatten) (entsS (s.toks + 3 * c₀.length + 3 * cs.flatten.length) r) := by
    refine apart_of (entsS_hash _ _) ⟨n3, fun e he kv hkv => ?_⟩
    rw [← ents_append] at he
    have : e.hash ∈ (ents s.toks (c₀ ++ cs.flatten)).map (·.hash) := List.mem_map_of_mem he
    rw [ents_hash, List.map_append] at this
    exact fun q => n4 _ this _ (List.mem_map_of_mem hkv) q
  refine gx_bind (gx_onRaise _ (gx_holding (gx_merge (h := (laidH (s.heap.push (dictO (ents s.toks c₀))) s.heap.objs.size (s.toks + 3 * c₀.length) (ents s.toks c₀) cs).push (dictO (entsS (s.toks + 3 * c₀.length + 3 * cs.flatten.length) r)))
    (es := ents s.toks c₀ ++ ents (s.toks + 3 * c₀.length) cs.flatten) (all := entsS (s.toks + 3 * c₀.length + 3 * cs.flatten.length) r) ?_ ?_ hn (entsS_int _ _) rfl (Heap.get?_push_of_some _ hbig) ?_ (dictO_get _ _) hap ?_ ?_)))
  · show s.heap.objs.size ≠ (laidH _ _ _ _ _).objs.size
    rw [hsize]; omega
  · refine beq_eq_false_iff_ne.mpr ?_
    show (laidH _ _ _ _ _).objs.size ≠ _
    rw [hsize]
    exact Nat.ne_of_gt (Nat.lt_of_lt_of_le hlow (Nat.le_trans (Nat.le_add_right _ 1) (Nat.le_add_right _ _)))
  · intro q
    have := congrArg List.length q
    rw [List.length_append, ents_length, h0] at this
    simp at this
  · rw [List.length_append, ents_length, ents_length, entsS_length]; omega
  · have e1 : n + 1 + 223 + 330 * cs.length + 1 + 13 * r.length + 5 + 6 * (entsS (s.toks + 3 * c₀.length + 3 * cs.flatten.length) r).length = n + 1 + 223 + 330 * cs.length + (6 + 19 * r.length) := by rw [entsS_length]; omega
    show Q _ _ _ _
    rw [e1]
    exact hQ
end
end Mine
end
section
open PySem PySem.W
set_option Elab.async false
set_option linter.unusedVariables false
namespace Mine
noncomputable def tailOf (targets : List Expr) (value : Expr) (env : Env) (v : Value) : Sem Flow := do assignStores env v (← swappedStores targets value env) ((assignEach targets env).map (·.2))
section
variable {prog : Program} {w : World} {n₀ : Nat} {ann : Option Value} {s : Shared}
theorem exec_assign_eq {targets : List Expr} {value : Expr} {pos : Pos} {env : Env} (hs : swapsWithSole targets value pos.line env = pure false) :
    exec (.Assign targets value pos) env = (do standAt pos; eval value env : Sem Value) >>= tailOf targets value env := by
  rw [arm_exec_Assign, hs]
  simp only [pure_bind, Bool.false_eq_true, if_false, bind_assoc]
  rfl
theorem bind_wrap {α β γ : Type} (x : Sem α) (f : α → Sem β) (K : β → Sem γ) (H : Value → Sem γ) (gd : Bool → Bool) (lv : List Value → List Value) : (x >>= f).wrap K H gd lv = x.wrap (fun a => (f a).wrap K H gd lv) H gd lv := by
  show (x.bind f).wrap K H gd lv = _
  induction x with
  | pure a => rfl
  | raise | unsupported | finish => rfl
  | _ => simp only [Sem.bind, Sem.wrap, *]
theorem dict_piece {targets : List Expr} {keys : List (Option Expr)} {values : List Expr} {pos pd : Pos} {env : Env} {c₀ r : List (Int × Str)} {cs : List (List (Int × Str))} {n₂ N : Nat} {s' z : Shared} {rest : List Stmt} {c : Code} {p p'' q : Pos}
    (hs : swapsWithSole targets (.Dict keys values pd) pos.line env = pure false)
    (hz : (evalEachOpt keys env).zip ((evalEach values env).map fun v => do let x ← v; standAt pd; pure x) = ((c₀ ++ cs.flatten ++ r).map (pairT pd)).map itemOf)
    (h0 : c₀.length = 17) (hl : ∀ c ∈ cs, c.length = 17) (hr : r.length ≤ 15) (hr0 : r ≠ []) (hn : n₀ ≤ s.heap.objs.size) (hlow : sysModules < s.heap.objs.size) (hnd : ((c₀ ++ cs.flatten ++ r).map fun kv => hashInt kv.1).Nodup)
    (hsz : (c₀ ++ cs.flatten ++ r).length < sizeLine)
    (h : segRun treeTable prog w n₀ ann 1 n₂ { s with heap := dispH s.heap s.toks c₀ cs r, toks := s.toks + 3 * c₀.length + 3 * cs.flatten.length + 3 * r.length }
      ⟨(tailOf targets (.Dict keys values pd) env (.ref s.heap.objs.size)).wrap doneF deadEnd id id, c, pd, [topFrame q]⟩ = some (.next, s', c, p''))
    (k : topRun treeTable prog w n₀ ann N s' (restOf rest env c p'' [topFrame q]) = some z) :
    topRun treeTable prog w n₀ ann ((1 + 1 + 223 + 330 * cs.length + (6 + 19 * r.length)) + (n₂ + N)) s (restOf (.Assign targets (.Dict keys values pd) pos :: rest) env c p [topFrame q]) = some z := by
  unfold restOf
  rw [execs_cons_wrap, exec_assign_eq hs, bind_wrap]
  have g : gx treeTable prog w n₀ ann (do standAt pos; eval (.Dict keys values pd) env : Sem Value) (fun v p' s₂ n' => v = .ref s.heap.objs.size ∧ p' = pd ∧
      s₂ = { s with heap := dispH s.heap s.toks c₀ cs r, toks := s.toks + 3 * c₀.length + 3 * cs.flatten.length + 3 * r.length } ∧ n' = 0 + 1 + 1 + 223 + 330 * cs.length + (6 + 19 * r.length)) p s 0 :=
    gx_bind (gx_dict (p := pos) hz h0 hl hr hr0 hn hlow hnd hsz ⟨rfl, rfl, rfl, rfl⟩)
  obtain ⟨m, v, p', s₂, ⟨rfl, rfl, rfl, hm⟩, run⟩ := gx_top _ g
  have hm' : m = 1 + 1 + 223 + 330 * cs.length + (6 + 19 * r.length) := by omega
  rw [← hm']
  refine run _ _ _ _ c (topFrame q) [] (n₂ + N) z ?_
  obtain ⟨a, ha, hN⟩ := seg_top (res := id) (K' := fun f => match f with | .next => (execs rest env).wrap doneF (leaveH env) id id | f => doneF f) (H' := leaveH env) (B := [topFrame q]) rfl n₂ _
    ⟨(tailOf targets (.Dict keys values p') env (.ref s.heap.objs.size)).wrap doneF deadEnd id id, c, p', [topFrame q]⟩
    ⟨(tailOf targets (.Dict keys values p') env (.ref s.heap.objs.size)).wrap (fun f => match f with | .next => (execs rest env).wrap doneF (leaveH env) id id | f => doneF f) (leaveH env) id id, c, p', [topFrame q]⟩ _ _ _ _ ⟨rfl, rfl, .inl ⟨rfl, rfl, _, rfl, rfl⟩⟩ h
  obtain rfl : a = .next := ha
  exact hN N z k
end
end Mine
end
section
open PySem PySem.W
set_option Elab.async false
set_option linter.unusedVariables false
namespace Mine
noncomputable def laidT (D : Addr) : BT → Nat → Nat → List DictEntry → List (List (Int × Str)) → BT
  | t, _, _, _, [] => t
  | t, n, T, es, c :: cs => laidT D ((t.ins n (dictO (ents T c))).set D (fun _ => dictO (es ++ ents T c))) (n + 1) (T + 51) (es ++ ents T c) cs
noncomputable def laidOk (D : Addr) : BT → Nat → Nat → List DictEntry → List (List (Int × Str)) → Bool
  | _, _, _, _, [] => true
  | t, n, T, es, c :: cs => ((t.ins n (dictO (ents T c))).get n).isSome && ((t.ins n (dictO (ents T c))).get D).isSome && laidOk D ((t.ins n (dictO (ents T c))).set D (fun _ => dictO (es ++ ents T c))) (n + 1) (T + 51) (es ++ ents T c) cs
theorem laid_abs (D : Addr) (life : Life) : ∀ (cs : List (List (Int × Str))) (t : BT) (n T : Nat) (es : List DictEntry), (∀ c ∈ cs, c.length = 17) → laidOk D t n T es cs = true → laidH (absHeap t n life) D T es cs = absHeap (laidT D t n T es cs) (n + cs.length) life
  | [], t, n, T, es, hl, h => rfl
  | c :: cs, t, n, T, es, hl, h => by
    unfold laidOk at h
    simp only [Bool.and_eq_true] at h
    obtain ⟨⟨h1, h2⟩, h3⟩ := h
    obtain ⟨o, ho⟩ := Option.isSome_iff_exists.mp h2
    unfold laidH laidT
    rw [← absHeap_ins h1, ← absHeap_set ho, hl c (.head _), laid_abs D life cs _ _ _ _ (fun c h => hl c (.tail _ h)) h3, List.length_cons]
    congr 1; omega
noncomputable def dispT (t : BT) (n T : Nat) (c₀ : List (Int × Str)) (cs : List (List (Int × Str))) (r : List (Int × Str)) : BT :=
  ((laidT n (t.ins n (dictO (ents T c₀))) (n + 1) (T + 51) (ents T c₀) cs).ins (n + 1 + cs.length) (dictO (entsS (T + 51 + 51 * cs.length) r))).set n
    (fun _ => dictO ((ents T c₀ ++ ents (T + 51) cs.flatten) ++ entsS (T + 51 + 51 * cs.length) r))
noncomputable def dispOk (t : BT) (n T : Nat) (c₀ : List (Int × Str)) (cs : List (List (Int × Str))) (r : List (Int × Str)) : Bool :=
  ((t.ins n (dictO (ents T c₀))).get n).isSome && laidOk n (t.ins n (dictO (ents T c₀))) (n + 1) (T + 51) (ents T c₀) cs &&
  (((laidT n (t.ins n (dictO (ents T c₀))) (n + 1) (T + 51) (ents T c₀) cs).ins (n + 1 + cs.length) (dictO (entsS (T + 51 + 51 * cs.length) r))).get (n + 1 + cs.length)).isSome &&
  (((laidT n (t.ins n (dictO (ents T c₀))) (n + 1) (T + 51) (ents T c₀) cs).ins (n + 1 + cs.length) (dictO (entsS (T + 51 + 51 * cs.length) r))).get n).isSome
theorem flat17 : ∀ (cs : List (List (Int × Str))), (∀ c ∈ cs, c.length = 17) → cs.flatten.length = 17 * cs.length
  | [], _ => rfl
  | c :: cs, h => by rw [List.flatten_cons, List.length_append, h c (.head _), flat17 cs fun c q => h c (.tail _ q), List.length_cons]; omega
theorem disp_abs {t : BT} {n T : Nat} {c₀ r : List (Int × Str)} {cs : List (List (Int × Str))} {life : Life} (h0 : c₀.length = 17) (hl : ∀ c ∈ cs, c.length = 17) (h : dispOk t n T c₀ cs r = true) :
    dispH (absHeap t n life) T c₀ cs r = absHeap (dispT t n T c₀ cs r) (n + 2 + cs.length) life := by
  unfold dispOk at h
  simp only [Bool.and_eq_true] at h
  obtain ⟨⟨⟨h1, h2⟩, h3⟩, h4⟩ := h
  obtain ⟨o, ho⟩ := Option.isSome_iff_exists.mp h4
  have e : 3 * cs.flatten.length = 51 * cs.length := by rw [flat17 cs hl]; omega
  unfold dispH dispT
  rw [absHeap_size, ← absHeap_ins h1, h0, e, laid_abs _ _ _ _ _ _ _ hl h2, ← absHeap_ins h3, ← absHeap_set ho]
  congr 1; omega
noncomputable def chOf (l : List (Int × Str)) (i : Nat) : List (Int × Str) := (l.drop (17 * i)).take 17
theorem chunks_eq (l : List (Int × Str)) : ∀ n, ((List.range n).map (chOf l)).flatten ++ l.drop (17 * n) = l
  | 0 => by simp
  | n + 1 => by
    rw [List.range_succ, List.map_append, List.flatten_append, List.map_cons, List.map_nil, List.flatten_singleton, List.append_assoc]
    have : chOf l n ++ l.drop (17 * (n + 1)) = l.drop (17 * n) := by
      unfold chOf
      have e : l.drop (17 * (n + 1)) = (l.drop (17 * n)).drop 17 := by rw [List.drop_drop]; congr 1
      rw [e, List.take_append_drop]
    rw [this]; exact chunks_eq l n
theorem chunks_first (l : List (Int × Str)) (n : Nat) : chOf l 0 ++ ((List.range n).map fun i => chOf l (i + 1)).flatten ++ l.drop (17 * (n + 1)) = l := by
  have := chunks_eq l (n + 1)
  rw [List.range_succ_eq_map, List.map_cons, List.map_map, List.flatten_cons] at this
  exact this
noncomputable def rdPair : Option Expr × Expr → Option (Int × Str)
  | (some (.Constant (.int i) _ _), .Constant (.str v) _ _) => some (i, v)
  | _ => none
noncomputable def rdPairs (keys : List (Option Expr)) (values : List Expr) : List (Int × Str) := (keys.zip values).filterMap rdPair
noncomputable def allPairs : List (Option Expr) → List Expr → Bool
  | [], [] => true
  | k :: ks, v :: vs => (rdPair (k, v)).isSome && allPairs ks vs
  | _, _ => false
theorem zip_pairs {env : Env} {pd : Pos} : ∀ (keys : List (Option Expr)) (values : List Expr), allPairs keys values = true →
    (evalEachOpt keys env).zip ((evalEach values env).map fun v => do let x ← v; standAt pd; pure x) = ((rdPairs keys values).map (pairT pd)).map itemOf
  | [], [], _ => rfl
  | [], _ :: _, h => by simp [allPairs] at h
  | _ :: _, [], h => by simp [allPairs] at h
  | k :: ks, v :: vs, h => by
    unfold allPairs at h
    obtain ⟨h1, h2⟩ := Bool.and_eq_true_iff.mp h
    have ih := zip_pairs (env := env) (pd := pd) ks vs h2
    unfold rdPair at h1
    split at h1
    · rename_i i _ _ x _ _ e
      obtain ⟨e1, e2⟩ := Prod.mk.inj e
      subst e1 e2
      show (some (constT (.int i)), (do let y ← constT (.str x); standAt pd; pure y)) :: (evalEachOpt ks env).zip ((evalEach vs env).map fun v => do let x ← v; standAt pd; pure x) = _
      rw [ih]
      rfl
    · cases h1
noncomputable def rises : List Int → Bool
  | [] => true
  | [_] => true
  | a :: b :: r => decide (a < b) && rises (b :: r)
theorem rises_pairwise : ∀ l : List Int, rises l = true → l.Pairwise (· < ·)
  | [], _ => .nil
  | [_], _ => by simp
  | a :: b :: r, h => by
    unfold rises at h
    obtain ⟨h1, h2⟩ := Bool.and_eq_true_iff.mp h
    have ih := rises_pairwise (b :: r) h2
    have h1 := of_decide_eq_true h1
    refine List.pairwise_cons.mpr ⟨fun x hx => ?_, ih⟩
    rcases List.mem_cons.mp hx with rfl | hx
    · exact h1
    · exact Int.lt_trans h1 (List.rel_of_pairwise_cons ih hx)
theorem rises_nodup {l : List Int} (h : rises l = true) : l.Nodup := (rises_pairwise l h).imp fun h => Int.ne_of_lt h
end Mine
end
section
open PySem PySem.W
set_option Elab.async false
set_option linter.unusedVariables false
set_option maxRecDepth 100000
set_option maxHeartbeats 0
noncomputable section
namespace Mine
noncomputable def bd : List Stmt := behindTheImports PySem.Challenge.pw_rw0123_02
noncomputable def envT : Env := { scope := PySem.Challenge.pw_rw0123_02.main.scope, locals := mainNs, globals := mainNs, cells := [], code := (Value.ref 13), frame := some 14 }
noncomputable def cT : Code := .body bd envT
noncomputable abbrev fB : List Frame := [topFrame ⟨0, 0, 0, 0⟩]
noncomputable def stN (i : Nat) : Stmt := (bd[i]?).getD (.Pass ⟨0, 0, 0, 0⟩)
noncomputable def stB : Stmt → List Stmt
  | .FunctionDef _ _ b .. => b
  | .ClassDef _ _ _ b .. => b
  | _ => []
noncomputable def stM (i j : Nat) : Stmt := ((stB (stN i))[j]?).getD (.Pass ⟨0, 0, 0, 0⟩)
noncomputable def stP : Stmt → Arguments
  | .FunctionDef _ a .. => a
  | _ => ⟨[], [], none, [], [], none, []⟩
noncomputable def stS : Stmt → Scope
  | .FunctionDef _ _ _ _ _ _ s .. => s
  | _ => default
noncomputable def dTg : Stmt → List PySem.Expr
  | .Assign ts _ _ => ts
  | _ => []
noncomputable def dKeys : Stmt → List (Option PySem.Expr)
  | .Assign _ (.Dict ks _ _) _ => ks
  | _ => []
noncomputable def dVals : Stmt → List PySem.Expr
  | .Assign _ (.Dict _ vs _) _ => vs
  | _ => []
noncomputable def dPd : Stmt → Pos
  | .Assign _ (.Dict _ _ p) _ => p
  | _ => default
noncomputable def dPos : Stmt → Pos
  | .Assign _ _ p => p
  | _ => default
noncomputable def kvsT : List (Int × Str) := rdPairs (dKeys (stN 4)) (dVals (stN 4))
noncomputable def chT (i : Nat) : List (Int × Str) := chOf kvsT i
noncomputable def csT : List (List (Int × Str)) := (List.range 37).map fun i => chT (i + 1)
noncomputable def rT : List (Int × Str) := kvsT.drop 646
noncomputable def dMain : Obj := dictO ((ents 263 (chT 0) ++ ents 314 csT.flatten) ++ entsS 2201 rT)
noncomputable def dSub (i : Nat) : Obj := dictO (ents (263 + 51 * i) (chT i))
noncomputable def dLast : Obj := dictO (entsS 2201 rT)
noncomputable abbrev annT : Option Value := (some (Value.ref 6))
noncomputable abbrev lifeT (w : World) : Life := (boot_heap w.params).life
noncomputable def o_a_11 (P : Params) : Obj := { cls := (Value.type "tuple"), dict := none, data := .seq #[] 0, slots := #[] }
noncomputable def o_a_12 (P : Params) : Obj := { cls := Value.none, dict := none, data := .fields #[], slots := #[] }
noncomputable def o_a_13 (P : Params) : Obj := { cls := (Value.type "code"), dict := none, data := .fields #[(Value.str (Str.ofString "<module>") 182), (Value.str (Str.ofString "<module>") 183), (Value.str (Str.ofString "/claim/cut.py") 184), (Value.int 1 0), (Value.int 0 0), (Value.int 0 0), (Value.int 0 0), (Value.int 0 0), (Value.ref 11), (Value.bool false), (Value.int 181 0), (Value.ref 12), Value.none, Value.none, Value.none, Value.none, (Value.int 185 0), (Value.int 1 0), (Value.str (Str.ofString "/claim/cut.py") 186)], slots := #[] }
noncomputable def o_a_14 (P : Params) : Obj := { cls := (Value.type "frame"), dict := none, data := .plain, slots := #[(some (Value.ref 13)), (some (Value.ref 3)), (some (Value.ref 3)), none, (some (Value.str (Str.ofString "__main__") 164)), none, (some (Value.ref 0))] }
noncomputable def T_a (P : Params) : BT := (.node (boot_o_0 P) (.node (boot_o_1 P) (.node (boot_o_3 P) (.node (boot_o_7 P) .nil .nil) (.node (o_a_11 P) .nil .nil)) (.node (boot_o_5 P) (.node (boot_o_9 P) .nil .nil) (.node (o_a_13 P) .nil .nil))) (.node (boot_o_2 P) (.node (boot_o_4 P) (.node (boot_o_8 P) .nil .nil) (.node (o_a_12 P) .nil .nil)) (.node (boot_o_6 P) (.node (boot_o_10 P) .nil .nil) (.node (o_a_14 P) .nil .nil))))
noncomputable def S_a (w : World) (os : OsState) : SharedT := ⟨T_a w.params, 15, lifeT w, Array.mk [], boot_drawn, 187, os⟩
noncomputable abbrev q_a : Pos := ⟨0, 0, 0, 0⟩
noncomputable def T_b (P : Params) : BT := (.node (boot_o_0 P) (.node (boot_o_1 P) (.node (boot_o_3 P) (.node (boot_o_7 P) .nil .nil) (.node (o_a_11 P) .nil .nil)) (.node (boot_o_5 P) (.node (boot_o_9 P) .nil .nil) (.node (o_a_13 P) .nil .nil))) (.node (boot_o_2 P) (.node (boot_o_4 P) (.node (boot_o_8 P) .nil .nil) (.node (o_a_12 P) .nil .nil)) (.node (boot_o_6 P) (.node (boot_o_10 P) .nil .nil) (.node (o_a_14 P) .nil .nil))))
noncomputable def S_b (w : World) (os : OsState) : SharedT := ⟨T_b w.params, 15, lifeT w, Array.mk [], boot_drawn, 187, os⟩
noncomputable abbrev q_b : Pos := ⟨0, 0, 0, 0⟩
noncomputable def o_0_3 (P : Params) : Obj := { cls := (Value.type "dict"), dict := none, data := .dict #[⟨PyData.keyHash P (Str.ofString "__name__"), (Value.str (Str.ofString "__name__") 165), (Value.str (Str.ofString "__main__") 164)⟩, ⟨PyData.keyHash P (Str.ofString "__doc__"), (Value.str (Str.ofString "__doc__") 166), Value.none⟩, ⟨PyData.keyHash P (Str.ofString "__package__"), (Value.str (Str.ofString "__package__") 167), Value.none⟩, ⟨PyData.keyHash P (Str.ofString "__loader__"), (Value.str (Str.ofString "__loader__") 168), (Value.builtin "__main__.__loader__#opaque")⟩, ⟨PyData.keyHash P (Str.ofString "__spec__"), (Value.str (Str.ofString "__spec__") 169), Value.none⟩, ⟨PyData.keyHash P (Str.ofString "__annotations__"), (Value.str (Str.ofString "__annotations__") 170), (Value.ref 6)⟩, ⟨PyData.keyHash P (Str.ofString "__builtins__"), (Value.str (Str.ofString "__builtins__") 171), (Value.ref 4)⟩, ⟨PyData.keyHash P (Str.ofString "__file__"), (Value.str (Str.ofString "__file__") 173), (Value.str (Str.ofString "/claim/cut.py") 172)⟩, ⟨PyData.keyHash P (Str.ofString "__cached__"), (Value.str (Str.ofString "__cached__") 174), Value.none⟩, ⟨PyData.keyHash P (Str.ofString "_wall"), (Value.str (Str.ofString "_wall") 193), (Value.ref 21)⟩] 10, slots := #[] }
noncomputable def o_0_12 (P : Params) : Obj := { cls := Value.none, dict := none, data := .fields #[(Value.int 1 0), (Value.int 0 0), (Value.ref 20)], slots := #[] }
noncomputable def o_0_15 (P : Params) : Obj := { cls := (Value.type "tuple"), dict := none, data := .seq #[] 0, slots := #[] }
noncomputable def o_0_16 (P : Params) : Obj := { cls := Value.none, dict := none, data := .fields #[], slots := #[] }
noncomputable def o_0_17 (P : Params) : Obj := { cls := (Value.type "tuple"), dict := none, data := .seq #[(Value.str (Str.ofString "k") 190)] 0, slots := #[] }
noncomputable def o_0_18 (P : Params) : Obj := { cls := (Value.type "tuple"), dict := none, data := .seq #[] 0, slots := #[] }
noncomputable def o_0_19 (P : Params) : Obj := { cls := Value.none, dict := none, data := .func { name := (Str.ofString "_wall"), qualname := (Str.ofString "_wall"), params := stP (stN 0), body := .stmts (stB (stN 0)), scope := stS (stN 0), globals := 0, closure := [], defaults := Value.none, kwdefaults := Value.none, doc := Value.none, pyModule := Value.none, annotations := none, code := Value.none, closureTuple := Value.none, builtins := 0 }, slots := #[] }
noncomputable def o_0_20 (P : Params) : Obj := { cls := (Value.type "code"), dict := none, data := .fields #[(Value.str (Str.ofString "_wall") 187), (Value.str (Str.ofString "_wall") 188), (Value.str (Str.ofString "/claim/cut.py") 189), (Value.int 1 0), (Value.int 1 0), (Value.int 0 0), (Value.int 0 0), (Value.int 3 0), (Value.ref 15), (Value.bool true), (Value.int 181 0), (Value.ref 16), Value.none, (Value.ref 17), (Value.ref 18), (Value.ref 19), (Value.int 191 0), (Value.int 1 0), (Value.str (Str.ofString "/claim/cut.py") 192)], slots := #[] }
noncomputable def o_0_21 (P : Params) : Obj := { cls := (Value.type "function"), dict := none, data := .func { name := (Str.ofString "_wall"), qualname := (Str.ofString "_wall"), params := stP (stN 0), body := .stmts (stB (stN 0)), scope := stS (stN 0), globals := 3, closure := [], defaults := Value.none, kwdefaults := Value.none, doc := Value.none, pyModule := (Value.str (Str.ofString "__main__") 164), annotations := none, code := (Value.ref 20), closureTuple := Value.none, builtins := 0 }, slots := #[] }
noncomputable def T_0 (P : Params) : BT := (.node (boot_o_0 P) (.node (boot_o_1 P) (.node (o_0_3 P) (.node (boot_o_7 P) (.node (o_0_15 P) .nil .nil) .nil) (.node (o_a_11 P) (.node (o_0_19 P) .nil .nil) .nil)) (.node (boot_o_5 P) (.node (boot_o_9 P) (.node (o_0_17 P) .nil .nil) .nil) (.node (o_a_13 P) (.node (o_0_21 P) .nil .nil) .nil))) (.node (boot_o_2 P) (.node (boot_o_4 P) (.node (boot_o_8 P) (.node (o_0_16 P) .nil .nil) .nil) (.node (o_0_12 P) (.node (o_0_20 P) .nil .nil) .nil)) (.node (boot_o_6 P) (.node (boot_o_10 P) (.node (o_0_18 P) .nil .nil) .nil) (.node (o_a_14 P) .nil .nil))))
noncomputable def S_0 (w : World) (os : OsState) : SharedT := ⟨T_0 w.params, 22, lifeT w, Array.mk [], boot_drawn, 194, os⟩
noncomputable abbrev q_0 : Pos := ⟨1, 0, 3, 12⟩
noncomputable def o_1_3 (P : Params) : Obj := { cls := (Value.type "dict"), dict := none, data := .dict #[⟨PyData.keyHash P (Str.ofString "__name__"), (Value.str (Str.ofString "__name__") 165), (Value.str (Str.ofString "cpy313.stringprep") 194)⟩, ⟨PyData.keyHash P (Str.ofString "__doc__"), (Value.str (Str.ofString "__doc__") 166), Value.none⟩, ⟨PyData.keyHash P (Str.ofString "__package__"), (Value.str (Str.ofString "__package__") 167), Value.none⟩, ⟨PyData.keyHash P (Str.ofString "__loader__"), (Value.str (Str.ofString "__loader__") 168), (Value.builtin "__main__.__loader__#opaque")⟩, ⟨PyData.keyHash P (Str.ofString "__spec__"), (Value.str (Str.ofString "__spec__") 169), Value.none⟩, ⟨PyData.keyHash P (Str.ofString "__annotations__"), (Value.str (Str.ofString "__annotations__") 170), (Value.ref 6)⟩, ⟨PyData.keyHash P (Str.ofString "__builtins__"), (Value.str (Str.ofString "__builtins__") 171), (Value.ref 4)⟩, ⟨PyData.keyHash P (Str.ofString "__file__"), (Value.str (Str.ofString "__file__") 173), (Value.str (Str.ofString "/claim/cut.py") 172)⟩, ⟨PyData.keyHash P (Str.ofString "__cached__"), (Value.str (Str.ofString "__cached__") 174), Value.none⟩, ⟨PyData.keyHash P (Str.ofString "_wall"), (Value.str (Str.ofString "_wall") 193), (Value.ref 21)⟩] 10, slots := #[] }
noncomputable def T_1 (P : Params) : BT := (.node (boot_o_0 P) (.node (boot_o_1 P) (.node (o_1_3 P) (.node (boot_o_7 P) (.node (o_0_15 P) .nil .nil) .nil) (.node (o_a_11 P) (.node (o_0_19 P) .nil .nil) .nil)) (.node (boot_o_5 P) (.node (boot_o_9 P) (.node (o_0_17 P) .nil .nil) .nil) (.node (o_a_13 P) (.node (o_0_21 P) .nil .nil) .nil))) (.node (boot_o_2 P) (.node (boot_o_4 P) (.node (boot_o_8 P) (.node (o_0_16 P) .nil .nil) .nil) (.node (o_0_12 P) (.node (o_0_20 P) .nil .nil) .nil)) (.node (boot_o_6 P) (.node (boot_o_10 P) (.node (o_0_18 P) .nil .nil) .nil) (.node (o_a_14 P) .nil .nil))))
noncomputable def S_1 (w : World) (os : OsState) : SharedT := ⟨T_1 w.params, 22, lifeT w, Array.mk [], boot_drawn, 196, os⟩
noncomputable abbrev q_1 : Pos := ⟨4, 0, 4, 8⟩
noncomputable def o_2_3 (P : Params) : Obj := { cls := (Value.type "dict"), dict := none, data := .dict #[⟨PyData.keyHash P (Str.ofString "__name__"), (Value.str (Str.ofString "__name__") 165), (Value.str (Str.ofString "cpy313.stringprep") 194)⟩, ⟨PyData.keyHash P (Str.ofString "__doc__"), (Value.str (Str.ofString "__doc__") 166), Value.none⟩, ⟨PyData.keyHash P (Str.ofString "__package__"), (Value.str (Str.ofString "__package__") 167), Value.none⟩, ⟨PyData.keyHash P (Str.ofString "__loader__"), (Value.str (Str.ofString "__loader__") 168), (Value.builtin "__main__.__loader__#opaque")⟩, ⟨PyData.keyHash P (Str.ofString "__spec__"), (Value.str (Str.ofString "__spec__") 169), Value.none⟩, ⟨PyData.keyHash P (Str.ofString "__annotations__"), (Value.str (Str.ofString "__annotations__") 170), (Value.ref 6)⟩, ⟨PyData.keyHash P (Str.ofString "__builtins__"), (Value.str (Str.ofString "__builtins__") 171), (Value.ref 4)⟩, ⟨PyData.keyHash P (Str.ofString "__file__"), (Value.str (Str.ofString "__file__") 173), (Value.str (Str.ofString "/claim/cut.py") 172)⟩, ⟨PyData.keyHash P (Str.ofString "__cached__"), (Value.str (Str.ofString "__cached__") 174), Value.none⟩, ⟨PyData.keyHash P (Str.ofString "_wall"), (Value.str (Str.ofString "_wall") 193), (Value.ref 21)⟩, ⟨PyData.keyHash P (Str.ofString "b1_set"), (Value.str (Str.ofString "b1_set") 255), (Value.ref 29)⟩] 11, slots := #[] }
noncomputable def o_2_22 (P : Params) : Obj := { cls := (Value.type "list"), dict := none, data := .seq #[(Value.int 173 196), (Value.int 847 197), (Value.int 6150 198), (Value.int 6155 199), (Value.int 6156 200), (Value.int 6157 201), (Value.int 8203 202), (Value.int 8204 203), (Value.int 8205 204), (Value.int 8288 205), (Value.int 65279 206)] 0, slots := #[] }
noncomputable def o_2_23 (P : Params) : Obj := { cls := (Value.type "range"), dict := none, data := .fields #[(Value.int 65024 207), (Value.int 65040 208), (Value.int 1 209)], slots := #[] }
noncomputable def o_2_24 (P : Params) : Obj := { cls := (Value.type "list"), dict := none, data := .seq #[(Value.int 65024 212), (Value.int 65025 213), (Value.int 65026 214), (Value.int 65027 215), (Value.int 65028 216), (Value.int 65029 217), (Value.int 65030 218), (Value.int 65031 219), (Value.int 65032 220), (Value.int 65033 221), (Value.int 65034 222), (Value.int 65035 223), (Value.int 65036 224), (Value.int 65037 225), (Value.int 65038 226), (Value.int 65039 227)] 18, slots := #[] }
noncomputable def o_2_25 (P : Params) : Obj := { cls := (Value.type "range_iterator"), dict := none, data := .fields #[(Value.int 65040 0), (Value.int 0 0), (Value.int 1 0)], slots := #[] }
noncomputable def o_2_26 (P : Params) : Obj := { cls := (Value.type "tuple"), dict := none, data := .seq #[] 0, slots := #[] }
noncomputable def o_2_27 (P : Params) : Obj := { cls := (Value.type "StopIteration"), dict := none, data := .fields #[(Value.ref 26), Value.none, Value.none, Value.none, (Value.bool false), Value.none], slots := #[] }
noncomputable def o_2_28 (P : Params) : Obj := { cls := (Value.type "list"), dict := none, data := .seq #[(Value.int 173 196), (Value.int 847 197), (Value.int 6150 198), (Value.int 6155 199), (Value.int 6156 200), (Value.int 6157 201), (Value.int 8203 202), (Value.int 8204 203), (Value.int 8205 204), (Value.int 8288 205), (Value.int 65279 206), (Value.int 65024 212), (Value.int 65025 213), (Value.int 65026 214), (Value.int 65027 215), (Value.int 65028 216), (Value.int 65029 217), (Value.int 65030 218), (Value.int 65031 219), (Value.int 65032 220), (Value.int 65033 221), (Value.int 65034 222), (Value.int 65035 223), (Value.int 65036 224), (Value.int 65037 225), (Value.int 65038 226), (Value.int 65039 227)] 0, slots := #[] }
noncomputable def o_2_29 (P : Params) : Obj := { cls := (Value.type "set"), dict := none, data := .set #[(65024, (Value.int 65024 212)), (65025, (Value.int 65025 213)), (65026, (Value.int 65026 214)), (65027, (Value.int 65027 215)), (65028, (Value.int 65028 216)), (65029, (Value.int 65029 217)), (6150, (Value.int 6150 198)), (65030, (Value.int 65030 218)), (65031, (Value.int 65031 219)), (65032, (Value.int 65032 220)), (65033, (Value.int 65033 221)), (6155, (Value.int 6155 199)), (6156, (Value.int 6156 200)), (6157, (Value.int 6157 201)), (8203, (Value.int 8203 202)), (8204, (Value.int 8204 203)), (8205, (Value.int 8205 204)), (65034, (Value.int 65034 222)), (65035, (Value.int 65035 223)), (65036, (Value.int 65036 224)), (65037, (Value.int 65037 225)), (65038, (Value.int 65038 226)), (65039, (Value.int 65039 227)), (173, (Value.int 173 196)), (847, (Value.int 847 197)), (8288, (Value.int 8288 205)), (65279, (Value.int 65279 206))] 29 { mask := 127, place := #[0, 1, 2, 3, 4, 5, 6, 7, 8, 9, 10, 11, 12, 13, 14, 15, 16, 17, 18, 19, 20, 21, 22, 45, 79, 96, 127], dummies := #[], finger := 0, led := !(P.followText "set-order"), moves := 2, plain := true }, slots := #[] }
noncomputable def o_2_30 (P : Params) : Obj := { cls := (Value.type "list_iterator"), dict := none, data := .fields #[Value.none, (Value.int 27 0)], slots := #[] }
noncomputable def o_2_31 (P : Params) : Obj := { cls := (Value.type "tuple"), dict := none, data := .seq #[] 0, slots := #[] }
noncomputable def o_2_32 (P : Params) : Obj := { cls := (Value.type "StopIteration"), dict := none, data := .fields #[(Value.ref 31), Value.none, Value.none, Value.none, (Value.bool false), Value.none], slots := #[] }
noncomputable def T_2 (P : Params) : BT := (.node (boot_o_0 P) (.node (boot_o_1 P) (.node (o_2_3 P) (.node (boot_o_7 P) (.node (o_0_15 P) (.node (o_2_31 P) .nil .nil) .nil) (.node (o_2_23 P) .nil .nil)) (.node (o_a_11 P) (.node (o_0_19 P) .nil .nil) (.node (o_2_27 P) .nil .nil))) (.node (boot_o_5 P) (.node (boot_o_9 P) (.node (o_0_17 P) .nil .nil) (.node (o_2_25 P) .nil .nil)) (.node (o_a_13 P) (.node (o_0_21 P) .nil .nil) (.node (o_2_29 P) .nil .nil)))) (.node (boot_o_2 P) (.node (boot_o_4 P) (.node (boot_o_8 P) (.node (o_0_16 P) (.node (o_2_32 P) .nil .nil) .nil) (.node (o_2_24 P) .nil .nil)) (.node (o_0_12 P) (.node (o_0_20 P) .nil .nil) (.node (o_2_28 P) .nil .nil))) (.node (boot_o_6 P) (.node (boot_o_10 P) (.node (o_0_18 P) .nil .nil) (.node (o_2_26 P) .nil .nil)) (.node (o_a_14 P) (.node (o_2_22 P) .nil .nil) (.node (o_2_30 P) .nil .nil)))))
noncomputable def S_2 (w : World) (os : OsState) : SharedT := ⟨T_2 w.params, 33, lifeT w, Array.mk [], boot_drawn, 256, os⟩
noncomputable abbrev q_2 : Pos := ⟨5, 0, 5, 6⟩
noncomputable def o_3_3 (P : Params) : Obj := { cls := (Value.type "dict"), dict := none, data := .dict #[⟨PyData.keyHash P (Str.ofString "__name__"), (Value.str (Str.ofString "__name__") 165), (Value.str (Str.ofString "cpy313.stringprep") 194)⟩, ⟨PyData.keyHash P (Str.ofString "__doc__"), (Value.str (Str.ofString "__doc__") 166), Value.none⟩, ⟨PyData.keyHash P (Str.ofString "__package__"), (Value.str (Str.ofString "__package__") 167), Value.none⟩, ⟨PyData.keyHash P (Str.ofString "__loader__"), (Value.str (Str.ofString "__loader__") 168), (Value.builtin "__main__.__loader__#opaque")⟩, ⟨PyData.keyHash P (Str.ofString "__spec__"), (Value.str (Str.ofString "__spec__") 169), Value.none⟩, ⟨PyData.keyHash P (Str.ofString "__annotations__"), (Value.str (Str.ofString "__annotations__") 170), (Value.ref 6)⟩, ⟨PyData.keyHash P (Str.ofString "__builtins__"), (Value.str (Str.ofString "__builtins__") 171), (Value.ref 4)⟩, ⟨PyData.keyHash P (Str.ofString "__file__"), (Value.str (Str.ofString "__file__") 173), (Value.str (Str.ofString "/claim/cut.py") 172)⟩, ⟨PyData.keyHash P (Str.ofString "__cached__"), (Value.str (Str.ofString "__cached__") 174), Value.none⟩, ⟨PyData.keyHash P (Str.ofString "_wall"), (Value.str (Str.ofString "_wall") 193), (Value.ref 21)⟩, ⟨PyData.keyHash P (Str.ofString "b1_set"), (Value.str (Str.ofString "b1_set") 255), (Value.ref 29)⟩, ⟨PyData.keyHash P (Str.ofString "in_table_b1"), (Value.str (Str.ofString "in_table_b1") 262), (Value.ref 39)⟩] 12, slots := #[] }
noncomputable def o_3_12 (P : Params) : Obj := { cls := Value.none, dict := none, data := .fields #[(Value.int 1 0), (Value.int 0 0), (Value.ref 20), (Value.int 6 0), (Value.int 0 0), (Value.ref 38)], slots := #[] }
noncomputable def o_3_33 (P : Params) : Obj := { cls := (Value.type "tuple"), dict := none, data := .seq #[] 0, slots := #[] }
noncomputable def o_3_34 (P : Params) : Obj := { cls := Value.none, dict := none, data := .fields #[], slots := #[] }
noncomputable def o_3_35 (P : Params) : Obj := { cls := (Value.type "tuple"), dict := none, data := .seq #[(Value.str (Str.ofString "code") 259)] 0, slots := #[] }
noncomputable def o_3_36 (P : Params) : Obj := { cls := (Value.type "tuple"), dict := none, data := .seq #[] 0, slots := #[] }
noncomputable def o_3_37 (P : Params) : Obj := { cls := Value.none, dict := none, data := .func { name := (Str.ofString "in_table_b1"), qualname := (Str.ofString "in_table_b1"), params := stP (stN 3), body := .stmts (stB (stN 3)), scope := stS (stN 3), globals := 0, closure := [], defaults := Value.none, kwdefaults := Value.none, doc := Value.none, pyModule := Value.none, annotations := none, code := Value.none, closureTuple := Value.none, builtins := 0 }, slots := #[] }
noncomputable def o_3_38 (P : Params) : Obj := { cls := (Value.type "code"), dict := none, data := .fields #[(Value.str (Str.ofString "in_table_b1") 256), (Value.str (Str.ofString "in_table_b1") 257), (Value.str (Str.ofString "/claim/cut.py") 258), (Value.int 6 0), (Value.int 1 0), (Value.int 0 0), (Value.int 0 0), (Value.int 3 0), (Value.ref 33), (Value.bool true), (Value.int 181 0), (Value.ref 34), Value.none, (Value.ref 35), (Value.ref 36), (Value.ref 37), (Value.int 260 0), (Value.int 6 0), (Value.str (Str.ofString "/claim/cut.py") 261)], slots := #[] }
noncomputable def o_3_39 (P : Params) : Obj := { cls := (Value.type "function"), dict := none, data := .func { name := (Str.ofString "in_table_b1"), qualname := (Str.ofString "in_table_b1"), params := stP (stN 3), body := .stmts (stB (stN 3)), scope := stS (stN 3), globals := 3, closure := [], defaults := Value.none, kwdefaults := Value.none, doc := Value.none, pyModule := (Value.str (Str.ofString "cpy313.stringprep") 194), annotations := none, code := (Value.ref 38), closureTuple := Value.none, builtins := 0 }, slots := #[] }
noncomputable def T_3 (P : Params) : BT := (.node (boot_o_0 P) (.node (boot_o_1 P) (.node (o_3_3 P) (.node (boot_o_7 P) (.node (o_0_15 P) (.node (o_2_31 P) .nil .nil) .nil) (.node (o_2_23 P) (.node (o_3_39 P) .nil .nil) .nil)) (.node (o_a_11 P) (.node (o_0_19 P) (.node (o_3_35 P) .nil .nil) .nil) (.node (o_2_27 P) .nil .nil))) (.node (boot_o_5 P) (.node (boot_o_9 P) (.node (o_0_17 P) (.node (o_3_33 P) .nil .nil) .nil) (.node (o_2_25 P) .nil .nil)) (.node (o_a_13 P) (.node (o_0_21 P) (.node (o_3_37 P) .nil .nil) .nil) (.node (o_2_29 P) .nil .nil)))) (.node (boot_o_2 P) (.node (boot_o_4 P) (.node (boot_o_8 P) (.node (o_0_16 P) (.node (o_2_32 P) .nil .nil) .nil) (.node (o_2_24 P) .nil .nil)) (.node (o_3_12 P) (.node (o_0_20 P) (.node (o_3_36 P) .nil .nil) .nil) (.node (o_2_28 P) .nil .nil))) (.node (boot_o_6 P) (.node (boot_o_10 P) (.node (o_0_18 P) (.node (o_3_34 P) .nil .nil) .nil) (.node (o_2_26 P) .nil .nil)) (.node (o_a_14 P) (.node (o_2_22 P) (.node (o_3_38 P) .nil .nil) .nil) (.node (o_2_30 P) .nil .nil)))))
noncomputable def S_3 (w : World) (os : OsState) : SharedT := ⟨T_3 w.params, 40, lifeT w, Array.mk [], boot_drawn, 263, os⟩
noncomputable abbrev q_3 : Pos := ⟨6, 0, 7, 30⟩
noncomputable def T_d (P : Params) : BT := (.node (boot_o_0 P) (.node (boot_o_1 P) (.node (o_3_3 P) (.node (boot_o_7 P) (.node (o_0_15 P) (.node (o_2_31 P) (.node (dSub 23) .nil .nil) .nil) (.node (dSub 7) .nil .nil)) (.node (o_2_23 P) (.node (o_3_39 P) (.node (dSub 31) .nil .nil) .nil) (.node (dSub 15) .nil .nil))) (.node (o_a_11 P) (.node (o_0_19 P) (.node (o_3_35 P) (.node (dSub 27) .nil .nil) .nil) (.node (dSub 11) .nil .nil)) (.node (o_2_27 P) (.node (dSub 3) (.node (dSub 35) .nil .nil) .nil) (.node (dSub 19) .nil .nil)))) (.node (boot_o_5 P) (.node (boot_o_9 P) (.node (o_0_17 P) (.node (o_3_33 P) (.node (dSub 25) .nil .nil) .nil) (.node (dSub 9) .nil .nil)) (.node (o_2_25 P) (.node (dSub 1) (.node (dSub 33) .nil .nil) .nil) (.node (dSub 17) .nil .nil))) (.node (o_a_13 P) (.node (o_0_21 P) (.node (o_3_37 P) (.node (dSub 29) .nil .nil) .nil) (.node (dSub 13) .nil .nil)) (.node (o_2_29 P) (.node (dSub 5) (.node (dSub 37) .nil .nil) .nil) (.node (dSub 21) .nil .nil))))) (.node (boot_o_2 P) (.node (boot_o_4 P) (.node (boot_o_8 P) (.node (o_0_16 P) (.node (o_2_32 P) (.node (dSub 24) .nil .nil) .nil) (.node (dSub 8) .nil .nil)) (.node (o_2_24 P) (.node (dMain) (.node (dSub 32) .nil .nil) .nil) (.node (dSub 16) .nil .nil))) (.node (o_3_12 P) (.node (o_0_20 P) (.node (o_3_36 P) (.node (dSub 28) .nil .nil) .nil) (.node (dSub 12) .nil .nil)) (.node (o_2_28 P) (.node (dSub 4) (.node (dSub 36) .nil .nil) .nil) (.node (dSub 20) .nil .nil)))) (.node (boot_o_6 P) (.node (boot_o_10 P) (.node (o_0_18 P) (.node (o_3_34 P) (.node (dSub 26) .nil .nil) .nil) (.node (dSub 10) .nil .nil)) (.node (o_2_26 P) (.node (dSub 2) (.node (dSub 34) .nil .nil) .nil) (.node (dSub 18) .nil .nil))) (.node (o_a_14 P) (.node (o_2_22 P) (.node (o_3_38 P) (.node (dSub 30) .nil .nil) .nil) (.node (dSub 14) .nil .nil)) (.node (o_2_30 P) (.node (dSub 6) (.node (dLast) .nil .nil) .nil) (.node (dSub 22) .nil .nil))))))
noncomputable def S_d (w : World) (os : OsState) : SharedT := ⟨T_d w.params, 79, lifeT w, Array.mk [], boot_drawn, 2213, os⟩
noncomputable def o_4_3 (P : Params) : Obj := { cls := (Value.type "dict"), dict := none, data := .dict #[⟨PyData.keyHash P (Str.ofString "__name__"), (Value.str (Str.ofString "__name__") 165), (Value.str (Str.ofString "cpy313.stringprep") 194)⟩, ⟨PyData.keyHash P (Str.ofString "__doc__"), (Value.str (Str.ofString "__doc__") 166), Value.none⟩, ⟨PyData.keyHash P (Str.ofString "__package__"), (Value.str (Str.ofString "__package__") 167), Value.none⟩, ⟨PyData.keyHash P (Str.ofString "__loader__"), (Value.str (Str.ofString "__loader__") 168), (Value.builtin "__main__.__loader__#opaque")⟩, ⟨PyData.keyHash P (Str.ofString "__spec__"), (Value.str (Str.ofString "__spec__") 169), Value.none⟩, ⟨PyData.keyHash P (Str.ofString "__annotations__"), (Value.str (Str.ofString "__annotations__") 170), (Value.ref 6)⟩, ⟨PyData.keyHash P (Str.ofString "__builtins__"), (Value.str (Str.ofString "__builtins__") 171), (Value.ref 4)⟩, ⟨PyData.keyHash P (Str.ofString "__file__"), (Value.str (Str.ofString "__file__") 173), (Value.str (Str.ofString "/claim/cut.py") 172)⟩, ⟨PyData.keyHash P (Str.ofString "__cached__"), (Value.str (Str.ofString "__cached__") 174), Value.none⟩, ⟨PyData.keyHash P (Str.ofString "_wall"), (Value.str (Str.ofString "_wall") 193), (Value.ref 21)⟩, ⟨PyData.keyHash P (Str.ofString "b1_set"), (Value.str (Str.ofString "b1_set") 255), (Value.ref 29)⟩, ⟨PyData.keyHash P (Str.ofString "in_table_b1"), (Value.str (Str.ofString "in_table_b1") 262), (Value.ref 39)⟩, ⟨PyData.keyHash P (Str.ofString "b3_exceptions"), (Value.str (Str.ofString "b3_exceptions") 2213), (Value.ref 40)⟩] 13, slots := #[] }
noncomputable def T_4 (P : Params) : BT := (.node (boot_o_0 P) (.node (boot_o_1 P) (.node (o_4_3 P) (.node (boot_o_7 P) (.node (o_0_15 P) (.node (o_2_31 P) (.node (dSub 23) .nil .nil) .nil) (.node (dSub 7) .nil .nil)) (.node (o_2_23 P) (.node (o_3_39 P) (.node (dSub 31) .nil .nil) .nil) (.node (dSub 15) .nil .nil))) (.node (o_a_11 P) (.node (o_0_19 P) (.node (o_3_35 P) (.node (dSub 27) .nil .nil) .nil) (.node (dSub 11) .nil .nil)) (.node (o_2_27 P) (.node (dSub 3) (.node (dSub 35) .nil .nil) .nil) (.node (dSub 19) .nil .nil)))) (.node (boot_o_5 P) (.node (boot_o_9 P) (.node (o_0_17 P) (.node (o_3_33 P) (.node (dSub 25) .nil .nil) .nil) (.node (dSub 9) .nil .nil)) (.node (o_2_25 P) (.node (dSub 1) (.node (dSub 33) .nil .nil) .nil) (.node (dSub 17) .nil .nil))) (.node (o_a_13 P) (.node (o_0_21 P) (.node (o_3_37 P) (.node (dSub 29) .nil .nil) .nil) (.node (dSub 13) .nil .nil)) (.node (o_2_29 P) (.node (dSub 5) (.node (dSub 37) .nil .nil) .nil) (.node (dSub 21) .nil .nil))))) (.node (boot_o_2 P) (.node (boot_o_4 P) (.node (boot_o_8 P) (.node (o_0_16 P) (.node (o_2_32 P) (.node (dSub 24) .nil .nil) .nil) (.node (dSub 8) .nil .nil)) (.node (o_2_24 P) (.node (dMain) (.node (dSub 32) .nil .nil) .nil) (.node (dSub 16) .nil .nil))) (.node (o_3_12 P) (.node (o_0_20 P) (.node (o_3_36 P) (.node (dSub 28) .nil .nil) .nil) (.node (dSub 12) .nil .nil)) (.node (o_2_28 P) (.node (dSub 4) (.node (dSub 36) .nil .nil) .nil) (.node (dSub 20) .nil .nil)))) (.node (boot_o_6 P) (.node (boot_o_10 P) (.node (o_0_18 P) (.node (o_3_34 P) (.node (dSub 26) .nil .nil) .nil) (.node (dSub 10) .nil .nil)) (.node (o_2_26 P) (.node (dSub 2) (.node (dSub 34) .nil .nil) .nil) (.node (dSub 18) .nil .nil))) (.node (o_a_14 P) (.node (o_2_22 P) (.node (o_3_38 P) (.node (dSub 30) .nil .nil) .nil) (.node (dSub 14) .nil .nil)) (.node (o_2_30 P) (.node (dSub 6) (.node (dLast) .nil .nil) .nil) (.node (dSub 22) .nil .nil))))))
noncomputable def S_4 (w : World) (os : OsState) : SharedT := ⟨T_4 w.params, 79, lifeT w, Array.mk [], boot_drawn, 2214, os⟩
noncomputable abbrev q_4 : Pos := ⟨8, 0, 8, 13⟩
noncomputable def o_5_3 (P : Params) : Obj := { cls := (Value.type "dict"), dict := none, data := .dict #[⟨PyData.keyHash P (Str.ofString "__name__"), (Value.str (Str.ofString "__name__") 165), (Value.str (Str.ofString "cpy313.stringprep") 194)⟩, ⟨PyData.keyHash P (Str.ofString "__doc__"), (Value.str (Str.ofString "__doc__") 166), Value.none⟩, ⟨PyData.keyHash P (Str.ofString "__package__"), (Value.str (Str.ofString "__package__") 167), Value.none⟩, ⟨PyData.keyHash P (Str.ofString "__loader__"), (Value.str (Str.ofString "__loader__") 168), (Value.builtin "__main__.__loader__#opaque")⟩, ⟨PyData.keyHash P (Str.ofString "__spec__"), (Value.str (Str.ofString "__spec__") 169), Value.none⟩, ⟨PyData.keyHash P (Str.ofString "__annotations__"), (Value.str (Str.ofString "__annotations__") 170), (Value.ref 6)⟩, ⟨PyData.keyHash P (Str.ofString "__builtins__"), (Value.str (Str.ofString "__builtins__") 171), (Value.ref 4)⟩, ⟨PyData.keyHash P (Str.ofString "__file__"), (Value.str (Str.ofString "__file__") 173), (Value.str (Str.ofString "/claim/cut.py") 172)⟩, ⟨PyData.keyHash P (Str.ofString "__cached__"), (Value.str (Str.ofString "__cached__") 174), Value.none⟩, ⟨PyData.keyHash P (Str.ofString "_wall"), (Value.str (Str.ofString "_wall") 193), (Value.ref 21)⟩, ⟨PyData.keyHash P (Str.ofString "b1_set"), (Value.str (Str.ofString "b1_set") 255), (Value.ref 29)⟩, ⟨PyData.keyHash P (Str.ofString "in_table_b1"), (Value.str (Str.ofString "in_table_b1") 262), (Value.ref 39)⟩, ⟨PyData.keyHash P (Str.ofString "b3_exceptions"), (Value.str (Str.ofString "b3_exceptions") 2213), (Value.ref 40)⟩, ⟨PyData.keyHash P (Str.ofString "map_table_b3"), (Value.str (Str.ofString "map_table_b3") 2221), (Value.ref 85)⟩] 14, slots := #[] }
noncomputable def o_5_12 (P : Params) : Obj := { cls := Value.none, dict := none, data := .fields #[(Value.int 1 0), (Value.int 0 0), (Value.ref 20), (Value.int 6 0), (Value.int 0 0), (Value.ref 38), (Value.int 9 0), (Value.int 0 0), (Value.ref 84)], slots := #[] }
noncomputable def o_5_79 (P : Params) : Obj := { cls := (Value.type "tuple"), dict := none, data := .seq #[] 0, slots := #[] }
noncomputable def o_5_80 (P : Params) : Obj := { cls := Value.none, dict := none, data := .fields #[], slots := #[] }
noncomputable def o_5_81 (P : Params) : Obj := { cls := (Value.type "tuple"), dict := none, data := .seq #[(Value.str (Str.ofString "code") 2217), (Value.str (Str.ofString "r") 2218)] 0, slots := #[] }
noncomputable def o_5_82 (P : Params) : Obj := { cls := (Value.type "tuple"), dict := none, data := .seq #[] 0, slots := #[] }
noncomputable def o_5_83 (P : Params) : Obj := { cls := Value.none, dict := none, data := .func { name := (Str.ofString "map_table_b3"), qualname := (Str.ofString "map_table_b3"), params := stP (stN 5), body := .stmts (stB (stN 5)), scope := stS (stN 5), globals := 0, closure := [], defaults := Value.none, kwdefaults := Value.none, doc := Value.none, pyModule := Value.none, annotations := none, code := Value.none, closureTuple := Value.none, builtins := 0 }, slots := #[] }
noncomputable def o_5_84 (P : Params) : Obj := { cls := (Value.type "code"), dict := none, data := .fields #[(Value.str (Str.ofString "map_table_b3") 2214), (Value.str (Str.ofString "map_table_b3") 2215), (Value.str (Str.ofString "/claim/cut.py") 2216), (Value.int 9 0), (Value.int 1 0), (Value.int 0 0), (Value.int 0 0), (Value.int 3 0), (Value.ref 79), (Value.bool true), (Value.int 181 0), (Value.ref 80), Value.none, (Value.ref 81), (Value.ref 82), (Value.ref 83), (Value.int 2219 0), (Value.int 9 0), (Value.str (Str.ofString "/claim/cut.py") 2220)], slots := #[] }
noncomputable def o_5_85 (P : Params) : Obj := { cls := (Value.type "function"), dict := none, data := .func { name := (Str.ofString "map_table_b3"), qualname := (Str.ofString "map_table_b3"), params := stP (stN 5), body := .stmts (stB (stN 5)), scope := stS (stN 5), globals := 3, closure := [], defaults := Value.none, kwdefaults := Value.none, doc := Value.none, pyModule := (Value.str (Str.ofString "cpy313.stringprep") 194), annotations := none, code := (Value.ref 84), closureTuple := Value.none, builtins := 0 }, slots := #[] }
noncomputable def T_5 (P : Params) : BT := (.node (boot_o_0 P) (.node (boot_o_1 P) (.node (o_5_3 P) (.node (boot_o_7 P) (.node (o_0_15 P) (.node (o_2_31 P) (.node (dSub 23) .nil .nil) .nil) (.node (dSub 7) (.node (o_5_79 P) .nil .nil) .nil)) (.node (o_2_23 P) (.node (o_3_39 P) (.node (dSub 31) .nil .nil) .nil) (.node (dSub 15) .nil .nil))) (.node (o_a_11 P) (.node (o_0_19 P) (.node (o_3_35 P) (.node (dSub 27) .nil .nil) .nil) (.node (dSub 11) (.node (o_5_83 P) .nil .nil) .nil)) (.node (o_2_27 P) (.node (dSub 3) (.node (dSub 35) .nil .nil) .nil) (.node (dSub 19) .nil .nil)))) (.node (boot_o_5 P) (.node (boot_o_9 P) (.node (o_0_17 P) (.node (o_3_33 P) (.node (dSub 25) .nil .nil) .nil) (.node (dSub 9) (.node (o_5_81 P) .nil .nil) .nil)) (.node (o_2_25 P) (.node (dSub 1) (.node (dSub 33) .nil .nil) .nil) (.node (dSub 17) .nil .nil))) (.node (o_a_13 P) (.node (o_0_21 P) (.node (o_3_37 P) (.node (dSub 29) .nil .nil) .nil) (.node (dSub 13) (.node (o_5_85 P) .nil .nil) .nil)) (.node (o_2_29 P) (.node (dSub 5) (.node (dSub 37) .nil .nil) .nil) (.node (dSub 21) .nil .nil))))) (.node (boot_o_2 P) (.node (boot_o_4 P) (.node (boot_o_8 P) (.node (o_0_16 P) (.node (o_2_32 P) (.node (dSub 24) .nil .nil) .nil) (.node (dSub 8) (.node (o_5_80 P) .nil .nil) .nil)) (.node (o_2_24 P) (.node (dMain) (.node (dSub 32) .nil .nil) .nil) (.node (dSub 16) .nil .nil))) (.node (o_5_12 P) (.node (o_0_20 P) (.node (o_3_36 P) (.node (dSub 28) .nil .nil) .nil) (.node (dSub 12) (.node (o_5_84 P) .nil .nil) .nil)) (.node (o_2_28 P) (.node (dSub 4) (.node (dSub 36) .nil .nil) .nil) (.node (dSub 20) .nil .nil)))) (.node (boot_o_6 P) (.node (boot_o_10 P) (.node (o_0_18 P) (.node (o_3_34 P) (.node (dSub 26) .nil .nil) .nil) (.node (dSub 10) (.node (o_5_82 P) .nil .nil) .nil)) (.node (o_2_26 P) (.node (dSub 2) (.node (dSub 34) .nil .nil) .nil) (.node (dSub 18) .nil .nil))) (.node (o_a_14 P) (.node (o_2_22 P) (.node (o_3_38 P) (.node (dSub 30) .nil .nil) .nil) (.node (dSub 14) .nil .nil)) (.node (o_2_30 P) (.node (dSub 6) (.node (dLast) .nil .nil) .nil) (.node (dSub 22) .nil .nil))))))
noncomputable def S_5 (w : World) (os : OsState) : SharedT := ⟨T_5 w.params, 86, lifeT w, Array.mk [], boot_drawn, 2222, os⟩
noncomputable abbrev q_5 : Pos := ⟨9, 0, 13, 23⟩
noncomputable def o_6_3 (P : Params) : Obj := { cls := (Value.type "dict"), dict := none, data := .dict #[⟨PyData.keyHash P (Str.ofString "__name__"), (Value.str (Str.ofString "__name__") 165), (Value.str (Str.ofString "cpy313.bisect") 2222)⟩, ⟨PyData.keyHash P (Str.ofString "__doc__"), (Value.str (Str.ofString "__doc__") 166), Value.none⟩, ⟨PyData.keyHash P (Str.ofString "__package__"), (Value.str (Str.ofString "__package__") 167), Value.none⟩, ⟨PyData.keyHash P (Str.ofString "__loader__"), (Value.str (Str.ofString "__loader__") 168), (Value.builtin "__main__.__loader__#opaque")⟩, ⟨PyData.keyHash P (Str.ofString "__spec__"), (Value.str (Str.ofString "__spec__") 169), Value.none⟩, ⟨PyData.keyHash P (Str.ofString "__annotations__"), (Value.str (Str.ofString "__annotations__") 170), (Value.ref 6)⟩, ⟨PyData.keyHash P (Str.ofString "__builtins__"), (Value.str (Str.ofString "__builtins__") 171), (Value.ref 4)⟩, ⟨PyData.keyHash P (Str.ofString "__file__"), (Value.str (Str.ofString "__file__") 173), (Value.str (Str.ofString "/claim/cut.py") 172)⟩, ⟨PyData.keyHash P (Str.ofString "__cached__"), (Value.str (Str.ofString "__cached__") 174), Value.none⟩, ⟨PyData.keyHash P (Str.ofString "_wall"), (Value.str (Str.ofString "_wall") 193), (Value.ref 21)⟩, ⟨PyData.keyHash P (Str.ofString "b1_set"), (Value.str (Str.ofString "b1_set") 255), (Value.ref 29)⟩, ⟨PyData.keyHash P (Str.ofString "in_table_b1"), (Value.str (Str.ofString "in_table_b1") 262), (Value.ref 39)⟩, ⟨PyData.keyHash P (Str.ofString "b3_exceptions"), (Value.str (Str.ofString "b3_exceptions") 2213), (Value.ref 40)⟩, ⟨PyData.keyHash P (Str.ofString "map_table_b3"), (Value.str (Str.ofString "map_table_b3") 2221), (Value.ref 85)⟩] 14, slots := #[] }
noncomputable def T_6 (P : Params) : BT := (.node (boot_o_0 P) (.node (boot_o_1 P) (.node (o_6_3 P) (.node (boot_o_7 P) (.node (o_0_15 P) (.node (o_2_31 P) (.node (dSub 23) .nil .nil) .nil) (.node (dSub 7) (.node (o_5_79 P) .nil .nil) .nil)) (.node (o_2_23 P) (.node (o_3_39 P) (.node (dSub 31) .nil .nil) .nil) (.node (dSub 15) .nil .nil))) (.node (o_a_11 P) (.node (o_0_19 P) (.node (o_3_35 P) (.node (dSub 27) .nil .nil) .nil) (.node (dSub 11) (.node (o_5_83 P) .nil .nil) .nil)) (.node (o_2_27 P) (.node (dSub 3) (.node (dSub 35) .nil .nil) .nil) (.node (dSub 19) .nil .nil)))) (.node (boot_o_5 P) (.node (boot_o_9 P) (.node (o_0_17 P) (.node (o_3_33 P) (.node (dSub 25) .nil .nil) .nil) (.node (dSub 9) (.node (o_5_81 P) .nil .nil) .nil)) (.node (o_2_25 P) (.node (dSub 1) (.node (dSub 33) .nil .nil) .nil) (.node (dSub 17) .nil .nil))) (.node (o_a_13 P) (.node (o_0_21 P) (.node (o_3_37 P) (.node (dSub 29) .nil .nil) .nil) (.node (dSub 13) (.node (o_5_85 P) .nil .nil) .nil)) (.node (o_2_29 P) (.node (dSub 5) (.node (dSub 37) .nil .nil) .nil) (.node (dSub 21) .nil .nil))))) (.node (boot_o_2 P) (.node (boot_o_4 P) (.node (boot_o_8 P) (.node (o_0_16 P) (.node (o_2_32 P) (.node (dSub 24) .nil .nil) .nil) (.node (dSub 8) (.node (o_5_80 P) .nil .nil) .nil)) (.node (o_2_24 P) (.node (dMain) (.node (dSub 32) .nil .nil) .nil) (.node (dSub 16) .nil .nil))) (.node (o_5_12 P) (.node (o_0_20 P) (.node (o_3_36 P) (.node (dSub 28) .nil .nil) .nil) (.node (dSub 12) (.node (o_5_84 P) .nil .nil) .nil)) (.node (o_2_28 P) (.node (dSub 4) (.node (dSub 36) .nil .nil) .nil) (.node (dSub 20) .nil .nil)))) (.node (boot_o_6 P) (.node (boot_o_10 P) (.node (o_0_18 P) (.node (o_3_34 P) (.node (dSub 26) .nil .nil) .nil) (.node (dSub 10) (.node (o_5_82 P) .nil .nil) .nil)) (.node (o_2_26 P) (.node (dSub 2) (.node (dSub 34) .nil .nil) .nil) (.node (dSub 18) .nil .nil))) (.node (o_a_14 P) (.node (o_2_22 P) (.node (o_3_38 P) (.node (dSub 30) .nil .nil) .nil) (.node (dSub 14) .nil .nil)) (.node (o_2_30 P) (.node (dSub 6) (.node (dLast) .nil .nil) .nil) (.node (dSub 22) .nil .nil))))))
noncomputable def S_6 (w : World) (os : OsState) : SharedT := ⟨T_6 w.params, 86, lifeT w, Array.mk [], boot_drawn, 2224, os⟩
noncomputable abbrev q_6 : Pos := ⟨14, 0, 14, 8⟩
noncomputable def o_7_3 (P : Params) : Obj := { cls := (Value.type "dict"), dict := none, data := .dict #[⟨PyData.keyHash P (Str.ofString "__name__"), (Value.str (Str.ofString "__name__") 165), (Value.str (Str.ofString "cpy313.bisect") 2222)⟩, ⟨PyData.keyHash P (Str.ofString "__doc__"), (Value.str (Str.ofString "__doc__") 166), Value.none⟩, ⟨PyData.keyHash P (Str.ofString "__package__"), (Value.str (Str.ofString "__package__") 167), Value.none⟩, ⟨PyData.keyHash P (Str.ofString "__loader__"), (Value.str (Str.ofString "__loader__") 168), (Value.builtin "__main__.__loader__#opaque")⟩, ⟨PyData.keyHash P (Str.ofString "__spec__"), (Value.str (Str.ofString "__spec__") 169), Value.none⟩, ⟨PyData.keyHash P (Str.ofString "__annotations__"), (Value.str (Str.ofString "__annotations__") 170), (Value.ref 6)⟩, ⟨PyData.keyHash P (Str.ofString "__builtins__"), (Value.str (Str.ofString "__builtins__") 171), (Value.ref 4)⟩, ⟨PyData.keyHash P (Str.ofString "__file__"), (Value.str (Str.ofString "__file__") 173), (Value.str (Str.ofString "/claim/cut.py") 172)⟩, ⟨PyData.keyHash P (Str.ofString "__cached__"), (Value.str (Str.ofString "__cached__") 174), Value.none⟩, ⟨PyData.keyHash P (Str.ofString "_wall"), (Value.str (Str.ofString "_wall") 193), (Value.ref 21)⟩, ⟨PyData.keyHash P (Str.ofString "b1_set"), (Value.str (Str.ofString "b1_set") 255), (Value.ref 29)⟩, ⟨PyData.keyHash P (Str.ofString "in_table_b1"), (Value.str (Str.ofString "in_table_b1") 262), (Value.ref 39)⟩, ⟨PyData.keyHash P (Str.ofString "b3_exceptions"), (Value.str (Str.ofString "b3_exceptions") 2213), (Value.ref 40)⟩, ⟨PyData.keyHash P (Str.ofString "map_table_b3"), (Value.str (Str.ofString "map_table_b3") 2221), (Value.ref 85)⟩, ⟨PyData.keyHash P (Str.ofString "bisect_right"), (Value.str (Str.ofString "bisect_right") 2237), (Value.ref 94)⟩] 15, slots := #[] }
noncomputable def o_7_12 (P : Params) : Obj := { cls := Value.none, dict := none, data := .fields #[(Value.int 1 0), (Value.int 0 0), (Value.ref 20), (Value.int 6 0), (Value.int 0 0), (Value.ref 38), (Value.int 9 0), (Value.int 0 0), (Value.ref 84), (Value.int 15 0), (Value.int 0 0), (Value.ref 93)], slots := #[] }
noncomputable def o_7_86 (P : Params) : Obj := { cls := (Value.type "tuple"), dict := none, data := .seq #[(Value.int 0 2224), Value.none] 0, slots := #[] }
noncomputable def o_7_87 (P : Params) : Obj := { cls := (Value.type "dict"), dict := none, data := .dict #[⟨PyData.keyHash P (Str.ofString "key"), (Value.str (Str.ofString "key") 2225), Value.none⟩] 1, slots := #[] }
noncomputable def o_7_88 (P : Params) : Obj := { cls := (Value.type "tuple"), dict := none, data := .seq #[] 0, slots := #[] }
noncomputable def o_7_89 (P : Params) : Obj := { cls := Value.none, dict := none, data := .fields #[], slots := #[] }
noncomputable def o_7_90 (P : Params) : Obj := { cls := (Value.type "tuple"), dict := none, data := .seq #[(Value.str (Str.ofString "a") 2229), (Value.str (Str.ofString "x") 2230), (Value.str (Str.ofString "lo") 2231), (Value.str (Str.ofString "hi") 2232), (Value.str (Str.ofString "key") 2233), (Value.str (Str.ofString "mid") 2234)] 0, slots := #[] }
noncomputable def o_7_91 (P : Params) : Obj := { cls := (Value.type "tuple"), dict := none, data := .seq #[] 0, slots := #[] }
noncomputable def o_7_92 (P : Params) : Obj := { cls := Value.none, dict := none, data := .func { name := (Str.ofString "bisect_right"), qualname := (Str.ofString "bisect_right"), params := stP (stN 7), body := .stmts (stB (stN 7)), scope := stS (stN 7), globals := 0, closure := [], defaults := Value.none, kwdefaults := Value.none, doc := Value.none, pyModule := Value.none, annotations := none, code := Value.none, closureTuple := Value.none, builtins := 0 }, slots := #[] }
noncomputable def o_7_93 (P : Params) : Obj := { cls := (Value.type "code"), dict := none, data := .fields #[(Value.str (Str.ofString "bisect_right") 2226), (Value.str (Str.ofString "bisect_right") 2227), (Value.str (Str.ofString "/claim/cut.py") 2228), (Value.int 15 0), (Value.int 4 0), (Value.int 0 0), (Value.int 1 0), (Value.int 3 0), (Value.ref 88), (Value.bool true), (Value.int 181 0), (Value.ref 89), Value.none, (Value.ref 90), (Value.ref 91), (Value.ref 92), (Value.int 2235 0), (Value.int 15 0), (Value.str (Str.ofString "/claim/cut.py") 2236)], slots := #[] }
noncomputable def o_7_94 (P : Params) : Obj := { cls := (Value.type "function"), dict := none, data := .func { name := (Str.ofString "bisect_right"), qualname := (Str.ofString "bisect_right"), params := stP (stN 7), body := .stmts (stB (stN 7)), scope := stS (stN 7), globals := 3, closure := [], defaults := (Value.ref 86), kwdefaults := (Value.ref 87), doc := Value.none, pyModule := (Value.str (Str.ofString "cpy313.bisect") 2222), annotations := none, code := (Value.ref 93), closureTuple := Value.none, builtins := 0 }, slots := #[] }
noncomputable def T_7 (P : Params) : BT := (.node (boot_o_0 P) (.node (boot_o_1 P) (.node (o_7_3 P) (.node (boot_o_7 P) (.node (o_0_15 P) (.node (o_2_31 P) (.node (dSub 23) .nil .nil) .nil) (.node (dSub 7) (.node (o_5_79 P) .nil .nil) .nil)) (.node (o_2_23 P) (.node (o_3_39 P) (.node (dSub 31) .nil .nil) .nil) (.node (dSub 15) (.node (o_7_87 P) .nil .nil) .nil))) (.node (o_a_11 P) (.node (o_0_19 P) (.node (o_3_35 P) (.node (dSub 27) .nil .nil) .nil) (.node (dSub 11) (.node (o_5_83 P) .nil .nil) .nil)) (.node (o_2_27 P) (.node (dSub 3) (.node (dSub 35) .nil .nil) .nil) (.node (dSub 19) (.node (o_7_91 P) .nil .nil) .nil)))) (.node (boot_o_5 P) (.node (boot_o_9 P) (.node (o_0_17 P) (.node (o_3_33 P) (.node (dSub 25) .nil .nil) .nil) (.node (dSub 9) (.node (o_5_81 P) .nil .nil) .nil)) (.node (o_2_25 P) (.node (dSub 1) (.node (dSub 33) .nil .nil) .nil) (.node (dSub 17) (.node (o_7_89 P) .nil .nil) .nil))) (.node (o_a_13 P) (.node (o_0_21 P) (.node (o_3_37 P) (.node (dSub 29) .nil .nil) .nil) (.node (dSub 13) (.node (o_5_85 P) .nil .nil) .nil)) (.node (o_2_29 P) (.node (dSub 5) (.node (dSub 37) .nil .nil) .nil) (.node (dSub 21) (.node (o_7_93 P) .nil .nil) .nil))))) (.node (boot_o_2 P) (.node (boot_o_4 P) (.node (boot_o_8 P) (.node (o_0_16 P) (.node (o_2_32 P) (.node (dSub 24) .nil .nil) .nil) (.node (dSub 8) (.node (o_5_80 P) .nil .nil) .nil)) (.node (o_2_24 P) (.node (dMain) (.node (dSub 32) .nil .nil) .nil) (.node (dSub 16) (.node (o_7_88 P) .nil .nil) .nil))) (.node (o_7_12 P) (.node (o_0_20 P) (.node (o_3_36 P) (.node (dSub 28) .nil .nil) .nil) (.node (dSub 12) (.node (o_5_84 P) .nil .nil) .nil)) (.node (o_2_28 P) (.node (dSub 4) (.node (dSub 36) .nil .nil) .nil) (.node (dSub 20) (.node (o_7_92 P) .nil .nil) .nil)))) (.node (boot_o_6 P) (.node (boot_o_10 P) (.node (o_0_18 P) (.node (o_3_34 P) (.node (dSub 26) .nil .nil) .nil) (.node (dSub 10) (.node (o_5_82 P) .nil .nil) .nil)) (.node (o_2_26 P) (.node (dSub 2) (.node (dSub 34) .nil .nil) .nil) (.node (dSub 18) (.node (o_7_90 P) .nil .nil) .nil))) (.node (o_a_14 P) (.node (o_2_22 P) (.node (o_3_38 P) (.node (dSub 30) .nil .nil) .nil) (.node (dSub 14) (.node (o_7_86 P) .nil .nil) .nil)) (.node (o_2_30 P) (.node (dSub 6) (.node (dLast) .nil .nil) .nil) (.node (dSub 22) (.node (o_7_94 P) .nil .nil) .nil))))))
noncomputable def S_7 (w : World) (os : OsState) : SharedT := ⟨T_7 w.params, 95, lifeT w, Array.mk [], boot_drawn, 2238, os⟩
noncomputable abbrev q_7 : Pos := ⟨15, 0, 34, 13⟩
noncomputable def o_8_3 (P : Params) : Obj := { cls := (Value.type "dict"), dict := none, data := .dict #[⟨PyData.keyHash P (Str.ofString "__name__"), (Value.str (Str.ofString "__name__") 165), (Value.str (Str.ofString "cpy313.bisect") 2222)⟩, ⟨PyData.keyHash P (Str.ofString "__doc__"), (Value.str (Str.ofString "__doc__") 166), Value.none⟩, ⟨PyData.keyHash P (Str.ofString "__package__"), (Value.str (Str.ofString "__package__") 167), Value.none⟩, ⟨PyData.keyHash P (Str.ofString "__loader__"), (Value.str (Str.ofString "__loader__") 168), (Value.builtin "__main__.__loader__#opaque")⟩, ⟨PyData.keyHash P (Str.ofString "__spec__"), (Value.str (Str.ofString "__spec__") 169), Value.none⟩, ⟨PyData.keyHash P (Str.ofString "__annotations__"), (Value.str (Str.ofString "__annotations__") 170), (Value.ref 6)⟩, ⟨PyData.keyHash P (Str.ofString "__builtins__"), (Value.str (Str.ofString "__builtins__") 171), (Value.ref 4)⟩, ⟨PyData.keyHash P (Str.ofString "__file__"), (Value.str (Str.ofString "__file__") 173), (Value.str (Str.ofString "/claim/cut.py") 172)⟩, ⟨PyData.keyHash P (Str.ofString "__cached__"), (Value.str (Str.ofString "__cached__") 174), Value.none⟩, ⟨PyData.keyHash P (Str.ofString "_wall"), (Value.str (Str.ofString "_wall") 193), (Value.ref 21)⟩, ⟨PyData.keyHash P (Str.ofString "b1_set"), (Value.str (Str.ofString "b1_set") 255), (Value.ref 29)⟩, ⟨PyData.keyHash P (Str.ofString "in_table_b1"), (Value.str (Str.ofString "in_table_b1") 262), (Value.ref 39)⟩, ⟨PyData.keyHash P (Str.ofString "b3_exceptions"), (Value.str (Str.ofString "b3_exceptions") 2213), (Value.ref 40)⟩, ⟨PyData.keyHash P (Str.ofString "map_table_b3"), (Value.str (Str.ofString "map_table_b3") 2221), (Value.ref 85)⟩, ⟨PyData.keyHash P (Str.ofString "bisect_right"), (Value.str (Str.ofString "bisect_right") 2237), (Value.ref 94)⟩, ⟨PyData.keyHash P (Str.ofString "bisect_left"), (Value.str (Str.ofString "bisect_left") 2251), (Value.ref 103)⟩] 16, slots := #[] }
noncomputable def o_8_12 (P : Params) : Obj := { cls := Value.none, dict := none, data := .fields #[(Value.int 1 0), (Value.int 0 0), (Value.ref 20), (Value.int 6 0), (Value.int 0 0), (Value.ref 38), (Value.int 9 0), (Value.int 0 0), (Value.ref 84), (Value.int 15 0), (Value.int 0 0), (Value.ref 93), (Value.int 35 0), (Value.int 0 0), (Value.ref 102)], slots := #[] }
noncomputable def o_8_95 (P : Params) : Obj := { cls := (Value.type "tuple"), dict := none, data := .seq #[(Value.int 0 2238), Value.none] 0, slots := #[] }
noncomputable def o_8_96 (P : Params) : Obj := { cls := (Value.type "dict"), dict := none, data := .dict #[⟨PyData.keyHash P (Str.ofString "key"), (Value.str (Str.ofString "key") 2239), Value.none⟩] 1, slots := #[] }
noncomputable def o_8_97 (P : Params) : Obj := { cls := (Value.type "tuple"), dict := none, data := .seq #[] 0, slots := #[] }
noncomputable def o_8_98 (P : Params) : Obj := { cls := Value.none, dict := none, data := .fields #[], slots := #[] }
noncomputable def o_8_99 (P : Params) : Obj := { cls := (Value.type "tuple"), dict := none, data := .seq #[(Value.str (Str.ofString "a") 2243), (Value.str (Str.ofString "x") 2244), (Value.str (Str.ofString "lo") 2245), (Value.str (Str.ofString "hi") 2246), (Value.str (Str.ofString "key") 2247), (Value.str (Str.ofString "mid") 2248)] 0, slots := #[] }
noncomputable def o_8_100 (P : Params) : Obj := { cls := (Value.type "tuple"), dict := none, data := .seq #[] 0, slots := #[] }
noncomputable def o_8_101 (P : Params) : Obj := { cls := Value.none, dict := none, data := .func { name := (Str.ofString "bisect_left"), qualname := (Str.ofString "bisect_left"), params := stP (stN 8), body := .stmts (stB (stN 8)), scope := stS (stN 8), globals := 0, closure := [], defaults := Value.none, kwdefaults := Value.none, doc := Value.none, pyModule := Value.none, annotations := none, code := Value.none, closureTuple := Value.none, builtins := 0 }, slots := #[] }
noncomputable def o_8_102 (P : Params) : Obj := { cls := (Value.type "code"), dict := none, data := .fields #[(Value.str (Str.ofString "bisect_left") 2240), (Value.str (Str.ofString "bisect_left") 2241), (Value.str (Str.ofString "/claim/cut.py") 2242), (Value.int 35 0), (Value.int 4 0), (Value.int 0 0), (Value.int 1 0), (Value.int 3 0), (Value.ref 97), (Value.bool true), (Value.int 181 0), (Value.ref 98), Value.none, (Value.ref 99), (Value.ref 100), (Value.ref 101), (Value.int 2249 0), (Value.int 35 0), (Value.str (Str.ofString "/claim/cut.py") 2250)], slots := #[] }
noncomputable def o_8_103 (P : Params) : Obj := { cls := (Value.type "function"), dict := none, data := .func { name := (Str.ofString "bisect_left"), qualname := (Str.ofString "bisect_left"), params := stP (stN 8), body := .stmts (stB (stN 8)), scope := stS (stN 8), globals := 3, closure := [], defaults := (Value.ref 95), kwdefaults := (Value.ref 96), doc := Value.none, pyModule := (Value.str (Str.ofString "cpy313.bisect") 2222), annotations := none, code := (Value.ref 102), closureTuple := Value.none, builtins := 0 }, slots := #[] }
noncomputable def T_8 (P : Params) : BT := (.node (boot_o_0 P) (.node (boot_o_1 P) (.node (o_8_3 P) (.node (boot_o_7 P) (.node (o_0_15 P) (.node (o_2_31 P) (.node (dSub 23) .nil .nil) (.node (o_8_95 P) .nil .nil)) (.node (dSub 7) (.node (o_5_79 P) .nil .nil) .nil)) (.node (o_2_23 P) (.node (o_3_39 P) (.node (dSub 31) .nil .nil) (.node (o_8_103 P) .nil .nil)) (.node (dSub 15) (.node (o_7_87 P) .nil .nil) .nil))) (.node (o_a_11 P) (.node (o_0_19 P) (.node (o_3_35 P) (.node (dSub 27) .nil .nil) (.node (o_8_99 P) .nil .nil)) (.node (dSub 11) (.node (o_5_83 P) .nil .nil) .nil)) (.node (o_2_27 P) (.node (dSub 3) (.node (dSub 35) .nil .nil) .nil) (.node (dSub 19) (.node (o_7_91 P) .nil .nil) .nil)))) (.node (boot_o_5 P) (.node (boot_o_9 P) (.node (o_0_17 P) (.node (o_3_33 P) (.node (dSub 25) .nil .nil) (.node (o_8_97 P) .nil .nil)) (.node (dSub 9) (.node (o_5_81 P) .nil .nil) .nil)) (.node (o_2_25 P) (.node (dSub 1) (.node (dSub 33) .nil .nil) .nil) (.node (dSub 17) (.node (o_7_89 P) .nil .nil) .nil))) (.node (o_a_13 P) (.node (o_0_21 P) (.node (o_3_37 P) (.node (dSub 29) .nil .nil) (.node (o_8_101 P) .nil .nil)) (.node (dSub 13) (.node (o_5_85 P) .nil .nil) .nil)) (.node (o_2_29 P) (.node (dSub 5) (.node (dSub 37) .nil .nil) .nil) (.node (dSub 21) (.node (o_7_93 P) .nil .nil) .nil))))) (.node (boot_o_2 P) (.node (boot_o_4 P) (.node (boot_o_8 P) (.node (o_0_16 P) (.node (o_2_32 P) (.node (dSub 24) .nil .nil) (.node (o_8_96 P) .nil .nil)) (.node (dSub 8) (.node (o_5_80 P) .nil .nil) .nil)) (.node (o_2_24 P) (.node (dMain) (.node (dSub 32) .nil .nil) .nil) (.node (dSub 16) (.node (o_7_88 P) .nil .nil) .nil))) (.node (o_8_12 P) (.node (o_0_20 P) (.node (o_3_36 P) (.node (dSub 28) .nil .nil) (.node (o_8_100 P) .nil .nil)) (.node (dSub 12) (.node (o_5_84 P) .nil .nil) .nil)) (.node (o_2_28 P) (.node (dSub 4) (.node (dSub 36) .nil .nil) .nil) (.node (dSub 20) (.node (o_7_92 P) .nil .nil) .nil)))) (.node (boot_o_6 P) (.node (boot_o_10 P) (.node (o_0_18 P) (.node (o_3_34 P) (.node (dSub 26) .nil .nil) (.node (o_8_98 P) .nil .nil)) (.node (dSub 10) (.node (o_5_82 P) .nil .nil) .nil)) (.node (o_2_26 P) (.node (dSub 2) (.node (dSub 34) .nil .nil) .nil) (.node (dSub 18) (.node (o_7_90 P) .nil .nil) .nil))) (.node (o_a_14 P) (.node (o_2_22 P) (.node (o_3_38 P) (.node (dSub 30) .nil .nil) (.node (o_8_102 P) .nil .nil)) (.node (dSub 14) (.node (o_7_86 P) .nil .nil) .nil)) (.node (o_2_30 P) (.node (dSub 6) (.node (dLast) .nil .nil) .nil) (.node (dSub 22) (.node (o_7_94 P) .nil .nil) .nil))))))
noncomputable def S_8 (w : World) (os : OsState) : SharedT := ⟨T_8 w.params, 104, lifeT w, Array.mk [], boot_drawn, 2252, os⟩
noncomputable abbrev q_8 : Pos := ⟨35, 0, 54, 13⟩
noncomputable def o_9_3 (P : Params) : Obj := { cls := (Value.type "dict"), dict := none, data := .dict #[⟨PyData.keyHash P (Str.ofString "__name__"), (Value.str (Str.ofString "__name__") 165), (Value.str (Str.ofString "cpy313.tabnanny") 2252)⟩, ⟨PyData.keyHash P (Str.ofString "__doc__"), (Value.str (Str.ofString "__doc__") 166), Value.none⟩, ⟨PyData.keyHash P (Str.ofString "__package__"), (Value.str (Str.ofString "__package__") 167), Value.none⟩, ⟨PyData.keyHash P (Str.ofString "__loader__"), (Value.str (Str.ofString "__loader__") 168), (Value.builtin "__main__.__loader__#opaque")⟩, ⟨PyData.keyHash P (Str.ofString "__spec__"), (Value.str (Str.ofString "__spec__") 169), Value.none⟩, ⟨PyData.keyHash P (Str.ofString "__annotations__"), (Value.str (Str.ofString "__annotations__") 170), (Value.ref 6)⟩, ⟨PyData.keyHash P (Str.ofString "__builtins__"), (Value.str (Str.ofString "__builtins__") 171), (Value.ref 4)⟩, ⟨PyData.keyHash P (Str.ofString "__file__"), (Value.str (Str.ofString "__file__") 173), (Value.str (Str.ofString "/claim/cut.py") 172)⟩, ⟨PyData.keyHash P (Str.ofString "__cached__"), (Value.str (Str.ofString "__cached__") 174), Value.none⟩, ⟨PyData.keyHash P (Str.ofString "_wall"), (Value.str (Str.ofString "_wall") 193), (Value.ref 21)⟩, ⟨PyData.keyHash P (Str.ofString "b1_set"), (Value.str (Str.ofString "b1_set") 255), (Value.ref 29)⟩, ⟨PyData.keyHash P (Str.ofString "in_table_b1"), (Value.str (Str.ofString "in_table_b1") 262), (Value.ref 39)⟩, ⟨PyData.keyHash P (Str.ofString "b3_exceptions"), (Value.str (Str.ofString "b3_exceptions") 2213), (Value.ref 40)⟩, ⟨PyData.keyHash P (Str.ofString "map_table_b3"), (Value.str (Str.ofString "map_table_b3") 2221), (Value.ref 85)⟩, ⟨PyData.keyHash P (Str.ofString "bisect_right"), (Value.str (Str.ofString "bisect_right") 2237), (Value.ref 94)⟩, ⟨PyData.keyHash P (Str.ofString "bisect_left"), (Value.str (Str.ofString "bisect_left") 2251), (Value.ref 103)⟩] 16, slots := #[] }
noncomputable def T_9 (P : Params) : BT := (.node (boot_o_0 P) (.node (boot_o_1 P) (.node (o_9_3 P) (.node (boot_o_7 P) (.node (o_0_15 P) (.node (o_2_31 P) (.node (dSub 23) .nil .nil) (.node (o_8_95 P) .nil .nil)) (.node (dSub 7) (.node (o_5_79 P) .nil .nil) .nil)) (.node (o_2_23 P) (.node (o_3_39 P) (.node (dSub 31) .nil .nil) (.node (o_8_103 P) .nil .nil)) (.node (dSub 15) (.node (o_7_87 P) .nil .nil) .nil))) (.node (o_a_11 P) (.node (o_0_19 P) (.node (o_3_35 P) (.node (dSub 27) .nil .nil) (.node (o_8_99 P) .nil .nil)) (.node (dSub 11) (.node (o_5_83 P) .nil .nil) .nil)) (.node (o_2_27 P) (.node (dSub 3) (.node (dSub 35) .nil .nil) .nil) (.node (dSub 19) (.node (o_7_91 P) .nil .nil) .nil)))) (.node (boot_o_5 P) (.node (boot_o_9 P) (.node (o_0_17 P) (.node (o_3_33 P) (.node (dSub 25) .nil .nil) (.node (o_8_97 P) .nil .nil)) (.node (dSub 9) (.node (o_5_81 P) .nil .nil) .nil)) (.node (o_2_25 P) (.node (dSub 1) (.node (dSub 33) .nil .nil) .nil) (.node (dSub 17) (.node (o_7_89 P) .nil .nil) .nil))) (.node (o_a_13 P) (.node (o_0_21 P) (.node (o_3_37 P) (.node (dSub 29) .nil .nil) (.node (o_8_101 P) .nil .nil)) (.node (dSub 13) (.node (o_5_85 P) .nil .nil) .nil)) (.node (o_2_29 P) (.node (dSub 5) (.node (dSub 37) .nil .nil) .nil) (.node (dSub 21) (.node (o_7_93 P) .nil .nil) .nil))))) (.node (boot_o_2 P) (.node (boot_o_4 P) (.node (boot_o_8 P) (.node (o_0_16 P) (.node (o_2_32 P) (.node (dSub 24) .nil .nil) (.node (o_8_96 P) .nil .nil)) (.node (dSub 8) (.node (o_5_80 P) .nil .nil) .nil)) (.node (o_2_24 P) (.node (dMain) (.node (dSub 32) .nil .nil) .nil) (.node (dSub 16) (.node (o_7_88 P) .nil .nil) .nil))) (.node (o_8_12 P) (.node (o_0_20 P) (.node (o_3_36 P) (.node (dSub 28) .nil .nil) (.node (o_8_100 P) .nil .nil)) (.node (dSub 12) (.node (o_5_84 P) .nil .nil) .nil)) (.node (o_2_28 P) (.node (dSub 4) (.node (dSub 36) .nil .nil) .nil) (.node (dSub 20) (.node (o_7_92 P) .nil .nil) .nil)))) (.node (boot_o_6 P) (.node (boot_o_10 P) (.node (o_0_18 P) (.node (o_3_34 P) (.node (dSub 26) .nil .nil) (.node (o_8_98 P) .nil .nil)) (.node (dSub 10) (.node (o_5_82 P) .nil .nil) .nil)) (.node (o_2_26 P) (.node (dSub 2) (.node (dSub 34) .nil .nil) .nil) (.node (dSub 18) (.node (o_7_90 P) .nil .nil) .nil))) (.node (o_a_14 P) (.node (o_2_22 P) (.node (o_3_38 P) (.node (dSub 30) .nil .nil) (.node (o_8_102 P) .nil .nil)) (.node (dSub 14) (.node (o_7_86 P) .nil .nil) .nil)) (.node (o_2_30 P) (.node (dSub 6) (.node (dLast) .nil .nil) .nil) (.node (dSub 22) (.node (o_7_94 P) .nil .nil) .nil))))))
noncomputable def S_9 (w : World) (os : OsState) : SharedT := ⟨T_9 w.params, 104, lifeT w, Array.mk [], boot_drawn, 2254, os⟩
noncomputable abbrev q_9 : Pos := ⟨55, 0, 55, 8⟩
noncomputable def o_10_3 (P : Params) : Obj := { cls := (Value.type "dict"), dict := none, data := .dict #[⟨PyData.keyHash P (Str.ofString "__name__"), (Value.str (Str.ofString "__name__") 165), (Value.str (Str.ofString "cpy313.tabnanny") 2252)⟩, ⟨PyData.keyHash P (Str.ofString "__doc__"), (Value.str (Str.ofString "__doc__") 166), Value.none⟩, ⟨PyData.keyHash P (Str.ofString "__package__"), (Value.str (Str.ofString "__package__") 167), Value.none⟩, ⟨PyData.keyHash P (Str.ofString "__loader__"), (Value.str (Str.ofString "__loader__") 168), (Value.builtin "__main__.__loader__#opaque")⟩, ⟨PyData.keyHash P (Str.ofString "__spec__"), (Value.str (Str.ofString "__spec__") 169), Value.none⟩, ⟨PyData.keyHash P (Str.ofString "__annotations__"), (Value.str (Str.ofString "__annotations__") 170), (Value.ref 6)⟩, ⟨PyData.keyHash P (Str.ofString "__builtins__"), (Value.str (Str.ofString "__builtins__") 171), (Value.ref 4)⟩, ⟨PyData.keyHash P (Str.ofString "__file__"), (Value.str (Str.ofString "__file__") 173), (Value.str (Str.ofString "/claim/cut.py") 172)⟩, ⟨PyData.keyHash P (Str.ofString "__cached__"), (Value.str (Str.ofString "__cached__") 174), Value.none⟩, ⟨PyData.keyHash P (Str.ofString "_wall"), (Value.str (Str.ofString "_wall") 193), (Value.ref 21)⟩, ⟨PyData.keyHash P (Str.ofString "b1_set"), (Value.str (Str.ofString "b1_set") 255), (Value.ref 29)⟩, ⟨PyData.keyHash P (Str.ofString "in_table_b1"), (Value.str (Str.ofString "in_table_b1") 262), (Value.ref 39)⟩, ⟨PyData.keyHash P (Str.ofString "b3_exceptions"), (Value.str (Str.ofString "b3_exceptions") 2213), (Value.ref 40)⟩, ⟨PyData.keyHash P (Str.ofString "map_table_b3"), (Value.str (Str.ofString "map_table_b3") 2221), (Value.ref 85)⟩, ⟨PyData.keyHash P (Str.ofString "bisect_right"), (Value.str (Str.ofString "bisect_right") 2237), (Value.ref 94)⟩, ⟨PyData.keyHash P (Str.ofString "bisect_left"), (Value.str (Str.ofString "bisect_left") 2251), (Value.ref 103)⟩, ⟨PyData.keyHash P (Str.ofString "Whitespace"), (Value.str (Str.ofString "Whitespace") 2351), (Value.ref 165)⟩] 17, slots := #[] }
noncomputable def o_10_12 (P : Params) : Obj := { cls := Value.none, dict := none, data := .fields #[(Value.int 1 0), (Value.int 0 0), (Value.ref 20), (Value.int 6 0), (Value.int 0 0), (Value.ref 38), (Value.int 9 0), (Value.int 0 0), (Value.ref 84), (Value.int 15 0), (Value.int 0 0), (Value.ref 93), (Value.int 35 0), (Value.int 0 0), (Value.ref 102), (Value.int 56 0), (Value.int 0 0), (Value.ref 109)], slots := #[] }
noncomputable def o_10_104 (P : Params) : Obj := { cls := (Value.type "tuple"), dict := none, data := .seq #[] 0, slots := #[] }
noncomputable def o_10_105 (P : Params) : Obj := { cls := (Value.type "builtin_function_or_method"), dict := none, data := .fields #[(Value.builtin "type.__prepare__"), (Value.type "type")], slots := #[] }
noncomputable def o_10_106 (P : Params) : Obj := { cls := (Value.type "dict"), dict := none, data := .dict #[⟨PyData.keyHash P (Str.ofString "__module__"), (Value.str (Str.ofString "__module__") 2261), (Value.str (Str.ofString "cpy313.tabnanny") 2252)⟩, ⟨PyData.keyHash P (Str.ofString "__qualname__"), (Value.str (Str.ofString "__qualname__") 2263), (Value.str (Str.ofString "Whitespace") 2262)⟩, ⟨PyData.keyHash P (Str.ofString "__firstlineno__"), (Value.str (Str.ofString "__firstlineno__") 2265), (Value.int 56 2264)⟩, ⟨PyData.keyHash P (Str.ofString "S"), (Value.str (Str.ofString "S") 2269), (Value.str (Str.ofString " ") 2267)⟩, ⟨PyData.keyHash P (Str.ofString "T"), (Value.str (Str.ofString "T") 2270), (Value.str (Str.ofString "\t") 2268)⟩, ⟨PyData.keyHash P (Str.ofString "__init__"), (Value.str (Str.ofString "__init__") 2285), (Value.ref 120)⟩, ⟨PyData.keyHash P (Str.ofString "longest_run_of_spaces"), (Value.str (Str.ofString "longest_run_of_spaces") 2294), (Value.ref 127)⟩, ⟨PyData.keyHash P (Str.ofString "indent_level"), (Value.str (Str.ofString "indent_level") 2306), (Value.ref 134)⟩, ⟨PyData.keyHash P (Str.ofString "equal"), (Value.str (Str.ofString "equal") 2314), (Value.ref 141)⟩, ⟨PyData.keyHash P (Str.ofString "not_equal_witness"), (Value.str (Str.ofString "not_equal_witness") 2322), (Value.ref 148)⟩, ⟨PyData.keyHash P (Str.ofString "less"), (Value.str (Str.ofString "less") 2330), (Value.ref 155)⟩, ⟨PyData.keyHash P (Str.ofString "not_less_witness"), (Value.str (Str.ofString "not_less_witness") 2338), (Value.ref 162)⟩, ⟨PyData.keyHash P (Str.ofString "__static_attributes__"), (Value.str (Str.ofString "__static_attributes__") 2344), (Value.ref 163)⟩] 13, slots := #[] }
noncomputable def o_10_107 (P : Params) : Obj := { cls := (Value.type "tuple"), dict := none, data := .seq #[] 0, slots := #[] }
noncomputable def o_10_108 (P : Params) : Obj := { cls := Value.none, dict := none, data := .fields #[(Value.int 59 0), (Value.int 4 0), (Value.ref 119), (Value.int 82 0), (Value.int 4 0), (Value.ref 126), (Value.int 86 0), (Value.int 4 0), (Value.ref 133), (Value.int 93 0), (Value.int 4 0), (Value.ref 140), (Value.int 96 0), (Value.int 4 0), (Value.ref 147), (Value.int 99 0), (Value.int 4 0), (Value.ref 154), (Value.int 102 0), (Value.int 4 0), (Value.ref 161)], slots := #[] }
noncomputable def o_10_109 (P : Params) : Obj := { cls := (Value.type "code"), dict := none, data := .fields #[(Value.str (Str.ofString "Whitespace") 2256), (Value.str (Str.ofString "Whitespace") 2257), (Value.str (Str.ofString "/claim/cut.py") 2258), (Value.int 56 0), (Value.int 0 0), (Value.int 0 0), (Value.int 0 0), (Value.int 0 0), (Value.ref 107), (Value.bool false), (Value.int 181 0), (Value.ref 108), Value.none, Value.none, Value.none, Value.none, (Value.int 2259 0), (Value.int 56 0), (Value.str (Str.ofString "/claim/cut.py") 2260)], slots := #[] }
noncomputable def o_10_110 (P : Params) : Obj := { cls := (Value.type "frame"), dict := none, data := .plain, slots := #[(some (Value.ref 109)), (some (Value.ref 3)), (some (Value.ref 106)), none, (some (Value.str (Str.ofString "cpy313.tabnanny") 2252)), none, (some (Value.ref 0))] }
noncomputable def o_10_111 (P : Params) : Obj := { cls := (Value.type "str_ascii_iterator"), dict := none, data := .fields #[Value.none, (Value.int 2 0)], slots := #[] }
noncomputable def o_10_112 (P : Params) : Obj := { cls := (Value.type "tuple"), dict := none, data := .seq #[] 0, slots := #[] }
noncomputable def o_10_113 (P : Params) : Obj := { cls := (Value.type "StopIteration"), dict := none, data := .fields #[(Value.ref 112), Value.none, Value.none, Value.none, (Value.bool false), Value.none], slots := #[] }
noncomputable def o_10_114 (P : Params) : Obj := { cls := (Value.type "tuple"), dict := none, data := .seq #[] 0, slots := #[] }
noncomputable def o_10_115 (P : Params) : Obj := { cls := Value.none, dict := none, data := .fields #[], slots := #[] }
noncomputable def o_10_116 (P : Params) : Obj := { cls := (Value.type "tuple"), dict := none, data := .seq #[(Value.str (Str.ofString "self") 2274), (Value.str (Str.ofString "ws") 2275), (Value.str (Str.ofString "S") 2276), (Value.str (Str.ofString "T") 2277), (Value.str (Str.ofString "count") 2278), (Value.str (Str.ofString "b") 2279), (Value.str (Str.ofString "n") 2280), (Value.str (Str.ofString "nt") 2281), (Value.str (Str.ofString "ch") 2282)] 0, slots := #[] }
noncomputable def o_10_117 (P : Params) : Obj := { cls := (Value.type "tuple"), dict := none, data := .seq #[] 0, slots := #[] }
noncomputable def o_10_118 (P : Params) : Obj := { cls := Value.none, dict := none, data := .func { name := (Str.ofString "__init__"), qualname := (Str.ofString "Whitespace.__init__"), params := stP (stM 10 1), body := .stmts (stB (stM 10 1)), scope := stS (stM 10 1), globals := 0, closure := [], defaults := Value.none, kwdefaults := Value.none, doc := Value.none, pyModule := Value.none, annotations := none, code := Value.none, closureTuple := Value.none, builtins := 0 }, slots := #[] }
noncomputable def o_10_119 (P : Params) : Obj := { cls := (Value.type "code"), dict := none, data := .fields #[(Value.str (Str.ofString "__init__") 2271), (Value.str (Str.ofString "Whitespace.__init__") 2272), (Value.str (Str.ofString "/claim/cut.py") 2273), (Value.int 59 0), (Value.int 2 0), (Value.int 0 0), (Value.int 0 0), (Value.int 3 0), (Value.ref 114), (Value.bool true), (Value.int 181 0), (Value.ref 115), Value.none, (Value.ref 116), (Value.ref 117), (Value.ref 118), (Value.int 2283 0), (Value.int 59 0), (Value.str (Str.ofString "/claim/cut.py") 2284)], slots := #[] }
noncomputable def o_10_120 (P : Params) : Obj := { cls := (Value.type "function"), dict := none, data := .func { name := (Str.ofString "__init__"), qualname := (Str.ofString "Whitespace.__init__"), params := stP (stM 10 1), body := .stmts (stB (stM 10 1)), scope := stS (stM 10 1), globals := 3, closure := [], defaults := Value.none, kwdefaults := Value.none, doc := Value.none, pyModule := (Value.str (Str.ofString "cpy313.tabnanny") 2252), annotations := none, code := (Value.ref 119), closureTuple := Value.none, builtins := 0 }, slots := #[] }
noncomputable def o_10_121 (P : Params) : Obj := { cls := (Value.type "tuple"), dict := none, data := .seq #[] 0, slots := #[] }
noncomputable def o_10_122 (P : Params) : Obj := { cls := Value.none, dict := none, data := .fields #[], slots := #[] }
noncomputable def o_10_123 (P : Params) : Obj := { cls := (Value.type "tuple"), dict := none, data := .seq #[(Value.str (Str.ofString "self") 2289), (Value.str (Str.ofString "count") 2290), (Value.str (Str.ofString "trailing") 2291)] 0, slots := #[] }
noncomputable def o_10_124 (P : Params) : Obj := { cls := (Value.type "tuple"), dict := none, data := .seq #[] 0, slots := #[] }
noncomputable def o_10_125 (P : Params) : Obj := { cls := Value.none, dict := none, data := .func { name := (Str.ofString "longest_run_of_spaces"), qualname := (Str.ofString "Whitespace.longest_run_of_spaces"), params := stP (stM 10 2), body := .stmts (stB (stM 10 2)), scope := stS (stM 10 2), globals := 0, closure := [], defaults := Value.none, kwdefaults := Value.none, doc := Value.none, pyModule := Value.none, annotations := none, code := Value.none, closureTuple := Value.none, builtins := 0 }, slots := #[] }
noncomputable def o_10_126 (P : Params) : Obj := { cls := (Value.type "code"), dict := none, data := .fields #[(Value.str (Str.ofString "longest_run_of_spaces") 2286), (Value.str (Str.ofString "Whitespace.longest_run_of_spaces") 2287), (Value.str (Str.ofString "/claim/cut.py") 2288), (Value.int 82 0), (Value.int 1 0), (Value.int 0 0), (Value.int 0 0), (Value.int 3 0), (Value.ref 121), (Value.bool true), (Value.int 181 0), (Value.ref 122), Value.none, (Value.ref 123), (Value.ref 124), (Value.ref 125), (Value.int 2292 0), (Value.int 82 0), (Value.str (Str.ofString "/claim/cut.py") 2293)], slots := #[] }
noncomputable def o_10_127 (P : Params) : Obj := { cls := (Value.type "function"), dict := none, data := .func { name := (Str.ofString "longest_run_of_spaces"), qualname := (Str.ofString "Whitespace.longest_run_of_spaces"), params := stP (stM 10 2), body := .stmts (stB (stM 10 2)), scope := stS (stM 10 2), globals := 3, closure := [], defaults := Value.none, kwdefaults := Value.none, doc := Value.none, pyModule := (Value.str (Str.ofString "cpy313.tabnanny") 2252), annotations := none, code := (Value.ref 126), closureTuple := Value.none, builtins := 0 }, slots := #[] }
noncomputable def o_10_128 (P : Params) : Obj := { cls := (Value.type "tuple"), dict := none, data := .seq #[] 0, slots := #[] }
noncomputable def o_10_129 (P : Params) : Obj := { cls := Value.none, dict := none, data := .fields #[], slots := #[] }
noncomputable def o_10_130 (P : Params) : Obj := { cls := (Value.type "tuple"), dict := none, data := .seq #[(Value.str (Str.ofString "self") 2298), (Value.str (Str.ofString "tabsize") 2299), (Value.str (Str.ofString "count") 2300), (Value.str (Str.ofString "trailing") 2301), (Value.str (Str.ofString "il") 2302), (Value.str (Str.ofString "i") 2303)] 0, slots := #[] }
noncomputable def o_10_131 (P : Params) : Obj := { cls := (Value.type "tuple"), dict := none, data := .seq #[] 0, slots := #[] }
noncomputable def o_10_132 (P : Params) : Obj := { cls := Value.none, dict := none, data := .func { name := (Str.ofString "indent_level"), qualname := (Str.ofString "Whitespace.indent_level"), params := stP (stM 10 3), body := .stmts (stB (stM 10 3)), scope := stS (stM 10 3), globals := 0, closure := [], defaults := Value.none, kwdefaults := Value.none, doc := Value.none, pyModule := Value.none, annotations := none, code := Value.none, closureTuple := Value.none, builtins := 0 }, slots := #[] }
noncomputable def o_10_133 (P : Params) : Obj := { cls := (Value.type "code"), dict := none, data := .fields #[(Value.str (Str.ofString "indent_level") 2295), (Value.str (Str.ofString "Whitespace.indent_level") 2296), (Value.str (Str.ofString "/claim/cut.py") 2297), (Value.int 86 0), (Value.int 2 0), (Value.int 0 0), (Value.int 0 0), (Value.int 3 0), (Value.ref 128), (Value.bool true), (Value.int 181 0), (Value.ref 129), Value.none, (Value.ref 130), (Value.ref 131), (Value.ref 132), (Value.int 2304 0), (Value.int 86 0), (Value.str (Str.ofString "/claim/cut.py") 2305)], slots := #[] }
noncomputable def o_10_134 (P : Params) : Obj := { cls := (Value.type "function"), dict := none, data := .func { name := (Str.ofString "indent_level"), qualname := (Str.ofString "Whitespace.indent_level"), params := stP (stM 10 3), body := .stmts (stB (stM 10 3)), scope := stS (stM 10 3), globals := 3, closure := [], defaults := Value.none, kwdefaults := Value.none, doc := Value.none, pyModule := (Value.str (Str.ofString "cpy313.tabnanny") 2252), annotations := none, code := (Value.ref 133), closureTuple := Value.none, builtins := 0 }, slots := #[] }
noncomputable def o_10_135 (P : Params) : Obj := { cls := (Value.type "tuple"), dict := none, data := .seq #[] 0, slots := #[] }
noncomputable def o_10_136 (P : Params) : Obj := { cls := Value.none, dict := none, data := .fields #[], slots := #[] }
noncomputable def o_10_137 (P : Params) : Obj := { cls := (Value.type "tuple"), dict := none, data := .seq #[(Value.str (Str.ofString "self") 2310), (Value.str (Str.ofString "other") 2311)] 0, slots := #[] }
noncomputable def o_10_138 (P : Params) : Obj := { cls := (Value.type "tuple"), dict := none, data := .seq #[] 0, slots := #[] }
noncomputable def o_10_139 (P : Params) : Obj := { cls := Value.none, dict := none, data := .func { name := (Str.ofString "equal"), qualname := (Str.ofString "Whitespace.equal"), params := stP (stM 10 4), body := .stmts (stB (stM 10 4)), scope := stS (stM 10 4), globals := 0, closure := [], defaults := Value.none, kwdefaults := Value.none, doc := Value.none, pyModule := Value.none, annotations := none, code := Value.none, closureTuple := Value.none, builtins := 0 }, slots := #[] }
noncomputable def o_10_140 (P : Params) : Obj := { cls := (Value.type "code"), dict := none, data := .fields #[(Value.str (Str.ofString "equal") 2307), (Value.str (Str.ofString "Whitespace.equal") 2308), (Value.str (Str.ofString "/claim/cut.py") 2309), (Value.int 93 0), (Value.int 2 0), (Value.int 0 0), (Value.int 0 0), (Value.int 3 0), (Value.ref 135), (Value.bool true), (Value.int 181 0), (Value.ref 136), Value.none, (Value.ref 137), (Value.ref 138), (Value.ref 139), (Value.int 2312 0), (Value.int 93 0), (Value.str (Str.ofString "/claim/cut.py") 2313)], slots := #[] }
noncomputable def o_10_141 (P : Params) : Obj := { cls := (Value.type "function"), dict := none, data := .func { name := (Str.ofString "equal"), qualname := (Str.ofString "Whitespace.equal"), params := stP (stM 10 4), body := .stmts (stB (stM 10 4)), scope := stS (stM 10 4), globals := 3, closure := [], defaults := Value.none, kwdefaults := Value.none, doc := Value.none, pyModule := (Value.str (Str.ofString "cpy313.tabnanny") 2252), annotations := none, code := (Value.ref 140), closureTuple := Value.none, builtins := 0 }, slots := #[] }
noncomputable def o_10_142 (P : Params) : Obj := { cls := (Value.type "tuple"), dict := none, data := .seq #[] 0, slots := #[] }
noncomputable def o_10_143 (P : Params) : Obj := { cls := Value.none, dict := none, data := .fields #[], slots := #[] }
noncomputable def o_10_144 (P : Params) : Obj := { cls := (Value.type "tuple"), dict := none, data := .seq #[(Value.str (Str.ofString "self") 2318), (Value.str (Str.ofString "other") 2319)] 0, slots := #[] }
noncomputable def o_10_145 (P : Params) : Obj := { cls := (Value.type "tuple"), dict := none, data := .seq #[] 0, slots := #[] }
noncomputable def o_10_146 (P : Params) : Obj := { cls := Value.none, dict := none, data := .func { name := (Str.ofString "not_equal_witness"), qualname := (Str.ofString "Whitespace.not_equal_witness"), params := stP (stM 10 5), body := .stmts (stB (stM 10 5)), scope := stS (stM 10 5), globals := 0, closure := [], defaults := Value.none, kwdefaults := Value.none, doc := Value.none, pyModule := Value.none, annotations := none, code := Value.none, closureTuple := Value.none, builtins := 0 }, slots := #[] }
noncomputable def o_10_147 (P : Params) : Obj := { cls := (Value.type "code"), dict := none, data := .fields #[(Value.str (Str.ofString "not_equal_witness") 2315), (Value.str (Str.ofString "Whitespace.not_equal_witness") 2316), (Value.str (Str.ofString "/claim/cut.py") 2317), (Value.int 96 0), (Value.int 2 0), (Value.int 0 0), (Value.int 0 0), (Value.int 3 0), (Value.ref 142), (Value.bool true), (Value.int 181 0), (Value.ref 143), Value.none, (Value.ref 144), (Value.ref 145), (Value.ref 146), (Value.int 2320 0), (Value.int 96 0), (Value.str (Str.ofString "/claim/cut.py") 2321)], slots := #[] }
noncomputable def o_10_148 (P : Params) : Obj := { cls := (Value.type "function"), dict := none, data := .func { name := (Str.ofString "not_equal_witness"), qualname := (Str.ofString "Whitespace.not_equal_witness"), params := stP (stM 10 5), body := .stmts (stB (stM 10 5)), scope := stS (stM 10 5), globals := 3, closure := [], defaults := Value.none, kwdefaults := Value.none, doc := Value.none, pyModule := (Value.str (Str.ofString "cpy313.tabnanny") 2252), annotations := none, code := (Value.ref 147), closureTuple := Value.none, builtins := 0 }, slots := #[] }
noncomputable def o_10_149 (P : Params) : Obj := { cls := (Value.type "tuple"), dict := none, data := .seq #[] 0, slots := #[] }
noncomputable def o_10_150 (P : Params) : Obj := { cls := Value.none, dict := none, data := .fields #[], slots := #[] }
noncomputable def o_10_151 (P : Params) : Obj := { cls := (Value.type "tuple"), dict := none, data := .seq #[(Value.str (Str.ofString "self") 2326), (Value.str (Str.ofString "other") 2327)] 0, slots := #[] }
noncomputable def o_10_152 (P : Params) : Obj := { cls := (Value.type "tuple"), dict := none, data := .seq #[] 0, slots := #[] }
noncomputable def o_10_153 (P : Params) : Obj := { cls := Value.none, dict := none, data := .func { name := (Str.ofString "less"), qualname := (Str.ofString "Whitespace.less"), params := stP (stM 10 6), body := .stmts (stB (stM 10 6)), scope := stS (stM 10 6), globals := 0, closure := [], defaults := Value.none, kwdefaults := Value.none, doc := Value.none, pyModule := Value.none, annotations := none, code := Value.none, closureTuple := Value.none, builtins := 0 }, slots := #[] }
noncomputable def o_10_154 (P : Params) : Obj := { cls := (Value.type "code"), dict := none, data := .fields #[(Value.str (Str.ofString "less") 2323), (Value.str (Str.ofString "Whitespace.less") 2324), (Value.str (Str.ofString "/claim/cut.py") 2325), (Value.int 99 0), (Value.int 2 0), (Value.int 0 0), (Value.int 0 0), (Value.int 3 0), (Value.ref 149), (Value.bool true), (Value.int 181 0), (Value.ref 150), Value.none, (Value.ref 151), (Value.ref 152), (Value.ref 153), (Value.int 2328 0), (Value.int 99 0), (Value.str (Str.ofString "/claim/cut.py") 2329)], slots := #[] }
noncomputable def o_10_155 (P : Params) : Obj := { cls := (Value.type "function"), dict := none, data := .func { name := (Str.ofString "less"), qualname := (Str.ofString "Whitespace.less"), params := stP (stM 10 6), body := .stmts (stB (stM 10 6)), scope := stS (stM 10 6), globals := 3, closure := [], defaults := Value.none, kwdefaults := Value.none, doc := Value.none, pyModule := (Value.str (Str.ofString "cpy313.tabnanny") 2252), annotations := none, code := (Value.ref 154), closureTuple := Value.none, builtins := 0 }, slots := #[] }
noncomputable def o_10_156 (P : Params) : Obj := { cls := (Value.type "tuple"), dict := none, data := .seq #[] 0, slots := #[] }
noncomputable def o_10_157 (P : Params) : Obj := { cls := Value.none, dict := none, data := .fields #[], slots := #[] }
noncomputable def o_10_158 (P : Params) : Obj := { cls := (Value.type "tuple"), dict := none, data := .seq #[(Value.str (Str.ofString "self") 2334), (Value.str (Str.ofString "other") 2335)] 0, slots := #[] }
noncomputable def o_10_159 (P : Params) : Obj := { cls := (Value.type "tuple"), dict := none, data := .seq #[] 0, slots := #[] }
noncomputable def o_10_160 (P : Params) : Obj := { cls := Value.none, dict := none, data := .func { name := (Str.ofString "not_less_witness"), qualname := (Str.ofString "Whitespace.not_less_witness"), params := stP (stM 10 7), body := .stmts (stB (stM 10 7)), scope := stS (stM 10 7), globals := 0, closure := [], defaults := Value.none, kwdefaults := Value.none, doc := Value.none, pyModule := Value.none, annotations := none, code := Value.none, closureTuple := Value.none, builtins := 0 }, slots := #[] }
noncomputable def o_10_161 (P : Params) : Obj := { cls := (Value.type "code"), dict := none, data := .fields #[(Value.str (Str.ofString "not_less_witness") 2331), (Value.str (Str.ofString "Whitespace.not_less_witness") 2332), (Value.str (Str.ofString "/claim/cut.py") 2333), (Value.int 102 0), (Value.int 2 0), (Value.int 0 0), (Value.int 0 0), (Value.int 3 0), (Value.ref 156), (Value.bool true), (Value.int 181 0), (Value.ref 157), Value.none, (Value.ref 158), (Value.ref 159), (Value.ref 160), (Value.int 2336 0), (Value.int 102 0), (Value.str (Str.ofString "/claim/cut.py") 2337)], slots := #[] }
noncomputable def o_10_162 (P : Params) : Obj := { cls := (Value.type "function"), dict := none, data := .func { name := (Str.ofString "not_less_witness"), qualname := (Str.ofString "Whitespace.not_less_witness"), params := stP (stM 10 7), body := .stmts (stB (stM 10 7)), scope := stS (stM 10 7), globals := 3, closure := [], defaults := Value.none, kwdefaults := Value.none, doc := Value.none, pyModule := (Value.str (Str.ofString "cpy313.tabnanny") 2252), annotations := none, code := (Value.ref 161), closureTuple := Value.none, builtins := 0 }, slots := #[] }
noncomputable def o_10_163 (P : Params) : Obj := { cls := (Value.type "tuple"), dict := none, data := .seq #[(Value.str (Str.ofString "is_simple") 2339), (Value.str (Str.ofString "n") 2340), (Value.str (Str.ofString "norm") 2341), (Value.str (Str.ofString "nt") 2342), (Value.str (Str.ofString "raw") 2343)] 0, slots := #[] }
noncomputable def o_10_164 (P : Params) : Obj := { cls := (Value.type "dict"), dict := none, data := .dict #[⟨PyData.keyHash P (Str.ofString "__module__"), (Value.str (Str.ofString "__module__") 2261), (Value.str (Str.ofString "cpy313.tabnanny") 2252)⟩, ⟨PyData.keyHash P (Str.ofString "__firstlineno__"), (Value.str (Str.ofString "__firstlineno__") 2265), (Value.int 56 2264)⟩, ⟨PyData.keyHash P (Str.ofString "S"), (Value.str (Str.ofString "S") 2269), (Value.str (Str.ofString " ") 2267)⟩, ⟨PyData.keyHash P (Str.ofString "T"), (Value.str (Str.ofString "T") 2270), (Value.str (Str.ofString "\t") 2268)⟩, ⟨PyData.keyHash P (Str.ofString "__init__"), (Value.str (Str.ofString "__init__") 2285), (Value.ref 120)⟩, ⟨PyData.keyHash P (Str.ofString "longest_run_of_spaces"), (Value.str (Str.ofString "longest_run_of_spaces") 2294), (Value.ref 127)⟩, ⟨PyData.keyHash P (Str.ofString "indent_level"), (Value.str (Str.ofString "indent_level") 2306), (Value.ref 134)⟩, ⟨PyData.keyHash P (Str.ofString "equal"), (Value.str (Str.ofString "equal") 2314), (Value.ref 141)⟩, ⟨PyData.keyHash P (Str.ofString "not_equal_witness"), (Value.str (Str.ofString "not_equal_witness") 2322), (Value.ref 148)⟩, ⟨PyData.keyHash P (Str.ofString "less"), (Value.str (Str.ofString "less") 2330), (Value.ref 155)⟩, ⟨PyData.keyHash P (Str.ofString "not_less_witness"), (Value.str (Str.ofString "not_less_witness") 2338), (Value.ref 162)⟩, ⟨PyData.keyHash P (Str.ofString "__static_attributes__"), (Value.str (Str.ofString "__static_attributes__") 2344), (Value.ref 163)⟩, ⟨PyData.keyHash P (Str.ofString "__dict__"), (Value.str (Str.ofString "__dict__") 2346), (Value.ref 166)⟩, ⟨PyData.keyHash P (Str.ofString "__weakref__"), (Value.str (Str.ofString "__weakref__") 2348), (Value.ref 167)⟩, ⟨PyData.keyHash P (Str.ofString "__doc__"), (Value.str (Str.ofString "__doc__") 2349), Value.none⟩] 4, slots := #[] }
noncomputable def o_10_165 (P : Params) : Obj := { cls := (Value.type "type"), dict := none, data := .cls { name := (Str.ofString "Whitespace"), bases := [(Value.type "object")], mro := [(Value.ref 165), (Value.type "object")], ns := 164, qualname := (Str.ofString "Whitespace"), hasDict := true, slotNames := [], subclasses := [], abstract := false, collection := none, hasDel := false }, slots := #[none, none, (some (Value.str (Str.ofString "Whitespace") 2254)), (some (Value.str (Str.ofString "Whitespace") 2262)), (some (Value.builtin "object.__new__")), (some (Value.bool true))] }
noncomputable def o_10_166 (P : Params) : Obj := { cls := (Value.type "getset_descriptor"), dict := none, data := .fields #[(Value.str (Str.ofString "__dict__") 2345), (Value.ref 165), (Value.builtin "function.__dict__"), (Value.builtin "function.__dict__#set")], slots := #[] }
noncomputable def o_10_167 (P : Params) : Obj := { cls := (Value.type "getset_descriptor"), dict := none, data := .fields #[(Value.str (Str.ofString "__weakref__") 2347), (Value.ref 165), (Value.builtin "ExceptionGroup.__weakref__"), Value.none], slots := #[] }
noncomputable def o_10_168 (P : Params) : Obj := { cls := (Value.type "super"), dict := none, data := .fields #[(Value.ref 165), (Value.ref 165), (Value.ref 165)], slots := #[] }
noncomputable def o_10_169 (P : Params) : Obj := { cls := (Value.type "builtin_function_or_method"), dict := none, data := .fields #[(Value.builtin "object.__init_subclass__"), (Value.ref 165)], slots := #[] }
noncomputable def T_10 (P : Params) : BT := (.node (boot_o_0 P) (.node (boot_o_1 P) (.node (o_10_3 P) (.node (boot_o_7 P) (.node (o_0_15 P) (.node (o_2_31 P) (.node (dSub 23) (.node (o_10_127 P) .nil .nil) .nil) (.node (o_8_95 P) (.node (o_10_159 P) .nil .nil) .nil)) (.node (dSub 7) (.node (o_5_79 P) (.node (o_10_143 P) .nil .nil) .nil) (.node (o_10_111 P) .nil .nil))) (.node (o_2_23 P) (.node (o_3_39 P) (.node (dSub 31) (.node (o_10_135 P) .nil .nil) .nil) (.node (o_8_103 P) (.node (o_10_167 P) .nil .nil) .nil)) (.node (dSub 15) (.node (o_7_87 P) (.node (o_10_151 P) .nil .nil) .nil) (.node (o_10_119 P) .nil .nil)))) (.node (o_a_11 P) (.node (o_0_19 P) (.node (o_3_35 P) (.node (dSub 27) (.node (o_10_131 P) .nil .nil) .nil) (.node (o_8_99 P) (.node (o_10_163 P) .nil .nil) .nil)) (.node (dSub 11) (.node (o_5_83 P) (.node (o_10_147 P) .nil .nil) .nil) (.node (o_10_115 P) .nil .nil))) (.node (o_2_27 P) (.node (dSub 3) (.node (dSub 35) (.node (o_10_139 P) .nil .nil) .nil) (.node (o_10_107 P) .nil .nil)) (.node (dSub 19) (.node (o_7_91 P) (.node (o_10_155 P) .nil .nil) .nil) (.node (o_10_123 P) .nil .nil))))) (.node (boot_o_5 P) (.node (boot_o_9 P) (.node (o_0_17 P) (.node (o_3_33 P) (.node (dSub 25) (.node (o_10_129 P) .nil .nil) .nil) (.node (o_8_97 P) (.node (o_10_161 P) .nil .nil) .nil)) (.node (dSub 9) (.node (o_5_81 P) (.node (o_10_145 P) .nil .nil) .nil) (.node (o_10_113 P) .nil .nil))) (.node (o_2_25 P) (.node (dSub 1) (.node (dSub 33) (.node (o_10_137 P) .nil .nil) .nil) (.node (o_10_105 P) (.node (o_10_169 P) .nil .nil) .nil)) (.node (dSub 17) (.node (o_7_89 P) (.node (o_10_153 P) .nil .nil) .nil) (.node (o_10_121 P) .nil .nil)))) (.node (o_a_13 P) (.node (o_0_21 P) (.node (o_3_37 P) (.node (dSub 29) (.node (o_10_133 P) .nil .nil) .nil) (.node (o_8_101 P) (.node (o_10_165 P) .nil .nil) .nil)) (.node (dSub 13) (.node (o_5_85 P) (.node (o_10_149 P) .nil .nil) .nil) (.node (o_10_117 P) .nil .nil))) (.node (o_2_29 P) (.node (dSub 5) (.node (dSub 37) (.node (o_10_141 P) .nil .nil) .nil) (.node (o_10_109 P) .nil .nil)) (.node (dSub 21) (.node (o_7_93 P) (.node (o_10_157 P) .nil .nil) .nil) (.node (o_10_125 P) .nil .nil)))))) (.node (boot_o_2 P) (.node (boot_o_4 P) (.node (boot_o_8 P) (.node (o_0_16 P) (.node (o_2_32 P) (.node (dSub 24) (.node (o_10_128 P) .nil .nil) .nil) (.node (o_8_96 P) (.node (o_10_160 P) .nil .nil) .nil)) (.node (dSub 8) (.node (o_5_80 P) (.node (o_10_144 P) .nil .nil) .nil) (.node (o_10_112 P) .nil .nil))) (.node (o_2_24 P) (.node (dMain) (.node (dSub 32) (.node (o_10_136 P) .nil .nil) .nil) (.node (o_10_104 P) (.node (o_10_168 P) .nil .nil) .nil)) (.node (dSub 16) (.node (o_7_88 P) (.node (o_10_152 P) .nil .nil) .nil) (.node (o_10_120 P) .nil .nil)))) (.node (o_10_12 P) (.node (o_0_20 P) (.node (o_3_36 P) (.node (dSub 28) (.node (o_10_132 P) .nil .nil) .nil) (.node (o_8_100 P) (.node (o_10_164 P) .nil .nil) .nil)) (.node (dSub 12) (.node (o_5_84 P) (.node (o_10_148 P) .nil .nil) .nil) (.node (o_10_116 P) .nil .nil))) (.node (o_2_28 P) (.node (dSub 4) (.node (dSub 36) (.node (o_10_140 P) .nil .nil) .nil) (.node (o_10_108 P) .nil .nil)) (.node (dSub 20) (.node (o_7_92 P) (.node (o_10_156 P) .nil .nil) .nil) (.node (o_10_124 P) .nil .nil))))) (.node (boot_o_6 P) (.node (boot_o_10 P) (.node (o_0_18 P) (.node (o_3_34 P) (.node (dSub 26) (.node (o_10_130 P) .nil .nil) .nil) (.node (o_8_98 P) (.node (o_10_162 P) .nil .nil) .nil)) (.node (dSub 10) (.node (o_5_82 P) (.node (o_10_146 P) .nil .nil) .nil) (.node (o_10_114 P) .nil .nil))) (.node (o_2_26 P) (.node (dSub 2) (.node (dSub 34) (.node (o_10_138 P) .nil .nil) .nil) (.node (o_10_106 P) .nil .nil)) (.node (dSub 18) (.node (o_7_90 P) (.node (o_10_154 P) .nil .nil) .nil) (.node (o_10_122 P) .nil .nil)))) (.node (o_a_14 P) (.node (o_2_22 P) (.node (o_3_38 P) (.node (dSub 30) (.node (o_10_134 P) .nil .nil) .nil) (.node (o_8_102 P) (.node (o_10_166 P) .nil .nil) .nil)) (.node (dSub 14) (.node (o_7_86 P) (.node (o_10_150 P) .nil .nil) .nil) (.node (o_10_118 P) .nil .nil))) (.node (o_2_30 P) (.node (dSub 6) (.node (dLast) (.node (o_10_142 P) .nil .nil) .nil) (.node (o_10_110 P) .nil .nil)) (.node (dSub 22) (.node (o_7_94 P) (.node (o_10_158 P) .nil .nil) .nil) (.node (o_10_126 P) .nil .nil)))))))
noncomputable def S_10 (w : World) (os : OsState) : SharedT := ⟨T_10 w.params, 170, lifeT w, Array.mk [], boot_drawn, 2352, os⟩
noncomputable abbrev q_10 : Pos := ⟨56, 0, 103, 16⟩
noncomputable def o_11_3 (P : Params) : Obj := { cls := (Value.type "dict"), dict := none, data := .dict #[⟨PyData.keyHash P (Str.ofString "__name__"), (Value.str (Str.ofString "__name__") 165), (Value.str (Str.ofString "law_rw0123_02") 2352)⟩, ⟨PyData.keyHash P (Str.ofString "__doc__"), (Value.str (Str.ofString "__doc__") 166), Value.none⟩, ⟨PyData.keyHash P (Str.ofString "__package__"), (Value.str (Str.ofString "__package__") 167), Value.none⟩, ⟨PyData.keyHash P (Str.ofString "__loader__"), (Value.str (Str.ofString "__loader__") 168), (Value.builtin "__main__.__loader__#opaque")⟩, ⟨PyData.keyHash P (Str.ofString "__spec__"), (Value.str (Str.ofString "__spec__") 169), Value.none⟩, ⟨PyData.keyHash P (Str.ofString "__annotations__"), (Value.str (Str.ofString "__annotations__") 170), (Value.ref 6)⟩, ⟨PyData.keyHash P (Str.ofString "__builtins__"), (Value.str (Str.ofString "__builtins__") 171), (Value.ref 4)⟩, ⟨PyData.keyHash P (Str.ofString "__file__"), (Value.str (Str.ofString "__file__") 173), (Value.str (Str.ofString "/claim/cut.py") 172)⟩, ⟨PyData.keyHash P (Str.ofString "__cached__"), (Value.str (Str.ofString "__cached__") 174), Value.none⟩, ⟨PyData.keyHash P (Str.ofString "_wall"), (Value.str (Str.ofString "_wall") 193), (Value.ref 21)⟩, ⟨PyData.keyHash P (Str.ofString "b1_set"), (Value.str (Str.ofString "b1_set") 255), (Value.ref 29)⟩, ⟨PyData.keyHash P (Str.ofString "in_table_b1"), (Value.str (Str.ofString "in_table_b1") 262), (Value.ref 39)⟩, ⟨PyData.keyHash P (Str.ofString "b3_exceptions"), (Value.str (Str.ofString "b3_exceptions") 2213), (Value.ref 40)⟩, ⟨PyData.keyHash P (Str.ofString "map_table_b3"), (Value.str (Str.ofString "map_table_b3") 2221), (Value.ref 85)⟩, ⟨PyData.keyHash P (Str.ofString "bisect_right"), (Value.str (Str.ofString "bisect_right") 2237), (Value.ref 94)⟩, ⟨PyData.keyHash P (Str.ofString "bisect_left"), (Value.str (Str.ofString "bisect_left") 2251), (Value.ref 103)⟩, ⟨PyData.keyHash P (Str.ofString "Whitespace"), (Value.str (Str.ofString "Whitespace") 2351), (Value.ref 165)⟩] 17, slots := #[] }
noncomputable def T_11 (P : Params) : BT := (.node (boot_o_0 P) (.node (boot_o_1 P) (.node (o_11_3 P) (.node (boot_o_7 P) (.node (o_0_15 P) (.node (o_2_31 P) (.node (dSub 23) (.node (o_10_127 P) .nil .nil) .nil) (.node (o_8_95 P) (.node (o_10_159 P) .nil .nil) .nil)) (.node (dSub 7) (.node (o_5_79 P) (.node (o_10_143 P) .nil .nil) .nil) (.node (o_10_111 P) .nil .nil))) (.node (o_2_23 P) (.node (o_3_39 P) (.node (dSub 31) (.node (o_10_135 P) .nil .nil) .nil) (.node (o_8_103 P) (.node (o_10_167 P) .nil .nil) .nil)) (.node (dSub 15) (.node (o_7_87 P) (.node (o_10_151 P) .nil .nil) .nil) (.node (o_10_119 P) .nil .nil)))) (.node (o_a_11 P) (.node (o_0_19 P) (.node (o_3_35 P) (.node (dSub 27) (.node (o_10_131 P) .nil .nil) .nil) (.node (o_8_99 P) (.node (o_10_163 P) .nil .nil) .nil)) (.node (dSub 11) (.node (o_5_83 P) (.node (o_10_147 P) .nil .nil) .nil) (.node (o_10_115 P) .nil .nil))) (.node (o_2_27 P) (.node (dSub 3) (.node (dSub 35) (.node (o_10_139 P) .nil .nil) .nil) (.node (o_10_107 P) .nil .nil)) (.node (dSub 19) (.node (o_7_91 P) (.node (o_10_155 P) .nil .nil) .nil) (.node (o_10_123 P) .nil .nil))))) (.node (boot_o_5 P) (.node (boot_o_9 P) (.node (o_0_17 P) (.node (o_3_33 P) (.node (dSub 25) (.node (o_10_129 P) .nil .nil) .nil) (.node (o_8_97 P) (.node (o_10_161 P) .nil .nil) .nil)) (.node (dSub 9) (.node (o_5_81 P) (.node (o_10_145 P) .nil .nil) .nil) (.node (o_10_113 P) .nil .nil))) (.node (o_2_25 P) (.node (dSub 1) (.node (dSub 33) (.node (o_10_137 P) .nil .nil) .nil) (.node (o_10_105 P) (.node (o_10_169 P) .nil .nil) .nil)) (.node (dSub 17) (.node (o_7_89 P) (.node (o_10_153 P) .nil .nil) .nil) (.node (o_10_121 P) .nil .nil)))) (.node (o_a_13 P) (.node (o_0_21 P) (.node (o_3_37 P) (.node (dSub 29) (.node (o_10_133 P) .nil .nil) .nil) (.node (o_8_101 P) (.node (o_10_165 P) .nil .nil) .nil)) (.node (dSub 13) (.node (o_5_85 P) (.node (o_10_149 P) .nil .nil) .nil) (.node (o_10_117 P) .nil .nil))) (.node (o_2_29 P) (.node (dSub 5) (.node (dSub 37) (.node (o_10_141 P) .nil .nil) .nil) (.node (o_10_109 P) .nil .nil)) (.node (dSub 21) (.node (o_7_93 P) (.node (o_10_157 P) .nil .nil) .nil) (.node (o_10_125 P) .nil .nil)))))) (.node (boot_o_2 P) (.node (boot_o_4 P) (.node (boot_o_8 P) (.node (o_0_16 P) (.node (o_2_32 P) (.node (dSub 24) (.node (o_10_128 P) .nil .nil) .nil) (.node (o_8_96 P) (.node (o_10_160 P) .nil .nil) .nil)) (.node (dSub 8) (.node (o_5_80 P) (.node (o_10_144 P) .nil .nil) .nil) (.node (o_10_112 P) .nil .nil))) (.node (o_2_24 P) (.node (dMain) (.node (dSub 32) (.node (o_10_136 P) .nil .nil) .nil) (.node (o_10_104 P) (.node (o_10_168 P) .nil .nil) .nil)) (.node (dSub 16) (.node (o_7_88 P) (.node (o_10_152 P) .nil .nil) .nil) (.node (o_10_120 P) .nil .nil)))) (.node (o_10_12 P) (.node (o_0_20 P) (.node (o_3_36 P) (.node (dSub 28) (.node (o_10_132 P) .nil .nil) .nil) (.node (o_8_100 P) (.node (o_10_164 P) .nil .nil) .nil)) (.node (dSub 12) (.node (o_5_84 P) (.node (o_10_148 P) .nil .nil) .nil) (.node (o_10_116 P) .nil .nil))) (.node (o_2_28 P) (.node (dSub 4) (.node (dSub 36) (.node (o_10_140 P) .nil .nil) .nil) (.node (o_10_108 P) .nil .nil)) (.node (dSub 20) (.node (o_7_92 P) (.node (o_10_156 P) .nil .nil) .nil) (.node (o_10_124 P) .nil .nil))))) (.node (boot_o_6 P) (.node (boot_o_10 P) (.node (o_0_18 P) (.node (o_3_34 P) (.node (dSub 26) (.node (o_10_130 P) .nil .nil) .nil) (.node (o_8_98 P) (.node (o_10_162 P) .nil .nil) .nil)) (.node (dSub 10) (.node (o_5_82 P) (.node (o_10_146 P) .nil .nil) .nil) (.node (o_10_114 P) .nil .nil))) (.node (o_2_26 P) (.node (dSub 2) (.node (dSub 34) (.node (o_10_138 P) .nil .nil) .nil) (.node (o_10_106 P) .nil .nil)) (.node (dSub 18) (.node (o_7_90 P) (.node (o_10_154 P) .nil .nil) .nil) (.node (o_10_122 P) .nil .nil)))) (.node (o_a_14 P) (.node (o_2_22 P) (.node (o_3_38 P) (.node (dSub 30) (.node (o_10_134 P) .nil .nil) .nil) (.node (o_8_102 P) (.node (o_10_166 P) .nil .nil) .nil)) (.node (dSub 14) (.node (o_7_86 P) (.node (o_10_150 P) .nil .nil) .nil) (.node (o_10_118 P) .nil .nil))) (.node (o_2_30 P) (.node (dSub 6) (.node (dLast) (.node (o_10_142 P) .nil .nil) .nil) (.node (o_10_110 P) .nil .nil)) (.node (dSub 22) (.node (o_7_94 P) (.node (o_10_158 P) .nil .nil) .nil) (.node (o_10_126 P) .nil .nil)))))))
noncomputable def S_11 (w : World) (os : OsState) : SharedT := ⟨T_11 w.params, 170, lifeT w, Array.mk [], boot_drawn, 2354, os⟩
noncomputable abbrev q_11 : Pos := ⟨104, 0, 104, 8⟩
noncomputable def o_12_3 (P : Params) : Obj := { cls := (Value.type "dict"), dict := none, data := .dict #[⟨PyData.keyHash P (Str.ofString "__name__"), (Value.str (Str.ofString "__name__") 165), (Value.str (Str.ofString "law_rw0123_02") 2352)⟩, ⟨PyData.keyHash P (Str.ofString "__doc__"), (Value.str (Str.ofString "__doc__") 166), Value.none⟩, ⟨PyData.keyHash P (Str.ofString "__package__"), (Value.str (Str.ofString "__package__") 167), Value.none⟩, ⟨PyData.keyHash P (Str.ofString "__loader__"), (Value.str (Str.ofString "__loader__") 168), (Value.builtin "__main__.__loader__#opaque")⟩, ⟨PyData.keyHash P (Str.ofString "__spec__"), (Value.str (Str.ofString "__spec__") 169), Value.none⟩, ⟨PyData.keyHash P (Str.ofString "__annotations__"), (Value.str (Str.ofString "__annotations__") 170), (Value.ref 6)⟩, ⟨PyData.keyHash P (Str.ofString "__builtins__"), (Value.str (Str.ofString "__builtins__") 171), (Value.ref 4)⟩, ⟨PyData.keyHash P (Str.ofString "__file__"), (Value.str (Str.ofString "__file__") 173), (Value.str (Str.ofString "/claim/cut.py") 172)⟩, ⟨PyData.keyHash P (Str.ofString "__cached__"), (Value.str (Str.ofString "__cached__") 174), Value.none⟩, ⟨PyData.keyHash P (Str.ofString "_wall"), (Value.str (Str.ofString "_wall") 193), (Value.ref 21)⟩, ⟨PyData.keyHash P (Str.ofString "b1_set"), (Value.str (Str.ofString "b1_set") 255), (Value.ref 29)⟩, ⟨PyData.keyHash P (Str.ofString "in_table_b1"), (Value.str (Str.ofString "in_table_b1") 262), (Value.ref 39)⟩, ⟨PyData.keyHash P (Str.ofString "b3_exceptions"), (Value.str (Str.ofString "b3_exceptions") 2213), (Value.ref 40)⟩, ⟨PyData.keyHash P (Str.ofString "map_table_b3"), (Value.str (Str.ofString "map_table_b3") 2221), (Value.ref 85)⟩, ⟨PyData.keyHash P (Str.ofString "bisect_right"), (Value.str (Str.ofString "bisect_right") 2237), (Value.ref 94)⟩, ⟨PyData.keyHash P (Str.ofString "bisect_left"), (Value.str (Str.ofString "bisect_left") 2251), (Value.ref 103)⟩, ⟨PyData.keyHash P (Str.ofString "Whitespace"), (Value.str (Str.ofString "Whitespace") 2351), (Value.ref 165)⟩, ⟨PyData.keyHash P (Str.ofString "_law_drawn"), (Value.str (Str.ofString "_law_drawn") 2369), (Value.ref 176)⟩] 18, slots := #[] }
noncomputable def o_12_12 (P : Params) : Obj := { cls := Value.none, dict := none, data := .fields #[(Value.int 1 0), (Value.int 0 0), (Value.ref 20), (Value.int 6 0), (Value.int 0 0), (Value.ref 38), (Value.int 9 0), (Value.int 0 0), (Value.ref 84), (Value.int 15 0), (Value.int 0 0), (Value.ref 93), (Value.int 35 0), (Value.int 0 0), (Value.ref 102), (Value.int 56 0), (Value.int 0 0), (Value.ref 109), (Value.int 105 0), (Value.int 0 0), (Value.ref 175)], slots := #[] }
noncomputable def o_12_170 (P : Params) : Obj := { cls := (Value.type "tuple"), dict := none, data := .seq #[] 0, slots := #[] }
noncomputable def o_12_171 (P : Params) : Obj := { cls := Value.none, dict := none, data := .fields #[], slots := #[] }
noncomputable def o_12_172 (P : Params) : Obj := { cls := (Value.type "tuple"), dict := none, data := .seq #[(Value.str (Str.ofString "number") 2357), (Value.str (Str.ofString "noise") 2358), (Value.str (Str.ofString "bases") 2359), (Value.str (Str.ofString "signs") 2360), (Value.str (Str.ofString "meant") 2361), (Value.str (Str.ofString "rest") 2362), (Value.str (Str.ofString "kind") 2363), (Value.str (Str.ofString "strange") 2364), (Value.str (Str.ofString "ahead") 2365), (Value.str (Str.ofString "base") 2366)] 0, slots := #[] }
noncomputable def o_12_173 (P : Params) : Obj := { cls := (Value.type "tuple"), dict := none, data := .seq #[] 0, slots := #[] }
noncomputable def o_12_174 (P : Params) : Obj := { cls := Value.none, dict := none, data := .func { name := (Str.ofString "_law_drawn"), qualname := (Str.ofString "_law_drawn"), params := stP (stN 12), body := .stmts (stB (stN 12)), scope := stS (stN 12), globals := 0, closure := [], defaults := Value.none, kwdefaults := Value.none, doc := Value.none, pyModule := Value.none, annotations := none, code := Value.none, closureTuple := Value.none, builtins := 0 }, slots := #[] }
noncomputable def o_12_175 (P : Params) : Obj := { cls := (Value.type "code"), dict := none, data := .fields #[(Value.str (Str.ofString "_law_drawn") 2354), (Value.str (Str.ofString "_law_drawn") 2355), (Value.str (Str.ofString "/claim/cut.py") 2356), (Value.int 105 0), (Value.int 1 0), (Value.int 0 0), (Value.int 0 0), (Value.int 3 0), (Value.ref 170), (Value.bool true), (Value.int 181 0), (Value.ref 171), Value.none, (Value.ref 172), (Value.ref 173), (Value.ref 174), (Value.int 2367 0), (Value.int 105 0), (Value.str (Str.ofString "/claim/cut.py") 2368)], slots := #[] }
noncomputable def o_12_176 (P : Params) : Obj := { cls := (Value.type "function"), dict := none, data := .func { name := (Str.ofString "_law_drawn"), qualname := (Str.ofString "_law_drawn"), params := stP (stN 12), body := .stmts (stB (stN 12)), scope := stS (stN 12), globals := 3, closure := [], defaults := Value.none, kwdefaults := Value.none, doc := Value.none, pyModule := (Value.str (Str.ofString "law_rw0123_02") 2352), annotations := none, code := (Value.ref 175), closureTuple := Value.none, builtins := 0 }, slots := #[] }
noncomputable def T_12 (P : Params) : BT := (.node (boot_o_0 P) (.node (boot_o_1 P) (.node (o_12_3 P) (.node (boot_o_7 P) (.node (o_0_15 P) (.node (o_2_31 P) (.node (dSub 23) (.node (o_10_127 P) .nil .nil) .nil) (.node (o_8_95 P) (.node (o_10_159 P) .nil .nil) .nil)) (.node (dSub 7) (.node (o_5_79 P) (.node (o_10_143 P) .nil .nil) .nil) (.node (o_10_111 P) (.node (o_12_175 P) .nil .nil) .nil))) (.node (o_2_23 P) (.node (o_3_39 P) (.node (dSub 31) (.node (o_10_135 P) .nil .nil) .nil) (.node (o_8_103 P) (.node (o_10_167 P) .nil .nil) .nil)) (.node (dSub 15) (.node (o_7_87 P) (.node (o_10_151 P) .nil .nil) .nil) (.node (o_10_119 P) .nil .nil)))) (.node (o_a_11 P) (.node (o_0_19 P) (.node (o_3_35 P) (.node (dSub 27) (.node (o_10_131 P) .nil .nil) .nil) (.node (o_8_99 P) (.node (o_10_163 P) .nil .nil) .nil)) (.node (dSub 11) (.node (o_5_83 P) (.node (o_10_147 P) .nil .nil) .nil) (.node (o_10_115 P) .nil .nil))) (.node (o_2_27 P) (.node (dSub 3) (.node (dSub 35) (.node (o_10_139 P) .nil .nil) .nil) (.node (o_10_107 P) (.node (o_12_171 P) .nil .nil) .nil)) (.node (dSub 19) (.node (o_7_91 P) (.node (o_10_155 P) .nil .nil) .nil) (.node (o_10_123 P) .nil .nil))))) (.node (boot_o_5 P) (.node (boot_o_9 P) (.node (o_0_17 P) (.node (o_3_33 P) (.node (dSub 25) (.node (o_10_129 P) .nil .nil) .nil) (.node (o_8_97 P) (.node (o_10_161 P) .nil .nil) .nil)) (.node (dSub 9) (.node (o_5_81 P) (.node (o_10_145 P) .nil .nil) .nil) (.node (o_10_113 P) .nil .nil))) (.node (o_2_25 P) (.node (dSub 1) (.node (dSub 33) (.node (o_10_137 P) .nil .nil) .nil) (.node (o_10_105 P) (.node (o_10_169 P) .nil .nil) .nil)) (.node (dSub 17) (.node (o_7_89 P) (.node (o_10_153 P) .nil .nil) .nil) (.node (o_10_121 P) .nil .nil)))) (.node (o_a_13 P) (.node (o_0_21 P) (.node (o_3_37 P) (.node (dSub 29) (.node (o_10_133 P) .nil .nil) .nil) (.node (o_8_101 P) (.node (o_10_165 P) .nil .nil) .nil)) (.node (dSub 13) (.node (o_5_85 P) (.node (o_10_149 P) .nil .nil) .nil) (.node (o_10_117 P) .nil .nil))) (.node (o_2_29 P) (.node (dSub 5) (.node (dSub 37) (.node (o_10_141 P) .nil .nil) .nil) (.node (o_10_109 P) (.node (o_12_173 P) .nil .nil) .nil)) (.node (dSub 21) (.node (o_7_93 P) (.node (o_10_157 P) .nil .nil) .nil) (.node (o_10_125 P) .nil .nil)))))) (.node (boot_o_2 P) (.node (boot_o_4 P) (.node (boot_o_8 P) (.node (o_0_16 P) (.node (o_2_32 P) (.node (dSub 24) (.node (o_10_128 P) .nil .nil) .nil) (.node (o_8_96 P) (.node (o_10_160 P) .nil .nil) .nil)) (.node (dSub 8) (.node (o_5_80 P) (.node (o_10_144 P) .nil .nil) .nil) (.node (o_10_112 P) (.node (o_12_176 P) .nil .nil) .nil))) (.node (o_2_24 P) (.node (dMain) (.node (dSub 32) (.node (o_10_136 P) .nil .nil) .nil) (.node (o_10_104 P) (.node (o_10_168 P) .nil .nil) .nil)) (.node (dSub 16) (.node (o_7_88 P) (.node (o_10_152 P) .nil .nil) .nil) (.node (o_10_120 P) .nil .nil)))) (.node (o_12_12 P) (.node (o_0_20 P) (.node (o_3_36 P) (.node (dSub 28) (.node (o_10_132 P) .nil .nil) .nil) (.node (o_8_100 P) (.node (o_10_164 P) .nil .nil) .nil)) (.node (dSub 12) (.node (o_5_84 P) (.node (o_10_148 P) .nil .nil) .nil) (.node (o_10_116 P) .nil .nil))) (.node (o_2_28 P) (.node (dSub 4) (.node (dSub 36) (.node (o_10_140 P) .nil .nil) .nil) (.node (o_10_108 P) (.node (o_12_172 P) .nil .nil) .nil)) (.node (dSub 20) (.node (o_7_92 P) (.node (o_10_156 P) .nil .nil) .nil) (.node (o_10_124 P) .nil .nil))))) (.node (boot_o_6 P) (.node (boot_o_10 P) (.node (o_0_18 P) (.node (o_3_34 P) (.node (dSub 26) (.node (o_10_130 P) .nil .nil) .nil) (.node (o_8_98 P) (.node (o_10_162 P) .nil .nil) .nil)) (.node (dSub 10) (.node (o_5_82 P) (.node (o_10_146 P) .nil .nil) .nil) (.node (o_10_114 P) .nil .nil))) (.node (o_2_26 P) (.node (dSub 2) (.node (dSub 34) (.node (o_10_138 P) .nil .nil) .nil) (.node (o_10_106 P) (.node (o_12_170 P) .nil .nil) .nil)) (.node (dSub 18) (.node (o_7_90 P) (.node (o_10_154 P) .nil .nil) .nil) (.node (o_10_122 P) .nil .nil)))) (.node (o_a_14 P) (.node (o_2_22 P) (.node (o_3_38 P) (.node (dSub 30) (.node (o_10_134 P) .nil .nil) .nil) (.node (o_8_102 P) (.node (o_10_166 P) .nil .nil) .nil)) (.node (dSub 14) (.node (o_7_86 P) (.node (o_10_150 P) .nil .nil) .nil) (.node (o_10_118 P) .nil .nil))) (.node (o_2_30 P) (.node (dSub 6) (.node (dLast) (.node (o_10_142 P) .nil .nil) .nil) (.node (o_10_110 P) (.node (o_12_174 P) .nil .nil) .nil)) (.node (dSub 22) (.node (o_7_94 P) (.node (o_10_158 P) .nil .nil) .nil) (.node (o_10_126 P) .nil .nil)))))))
noncomputable def S_12 (w : World) (os : OsState) : SharedT := ⟨T_12 w.params, 177, lifeT w, Array.mk [], boot_drawn, 2370, os⟩
noncomputable abbrev q_12 : Pos := ⟨105, 0, 118, 71⟩
noncomputable def o_13_3 (P : Params) : Obj := { cls := (Value.type "dict"), dict := none, data := .dict #[⟨PyData.keyHash P (Str.ofString "__name__"), (Value.str (Str.ofString "__name__") 165), (Value.str (Str.ofString "law_rw0123_02") 2352)⟩, ⟨PyData.keyHash P (Str.ofString "__doc__"), (Value.str (Str.ofString "__doc__") 166), Value.none⟩, ⟨PyData.keyHash P (Str.ofString "__package__"), (Value.str (Str.ofString "__package__") 167), Value.none⟩, ⟨PyData.keyHash P (Str.ofString "__loader__"), (Value.str (Str.ofString "__loader__") 168), (Value.builtin "__main__.__loader__#opaque")⟩, ⟨PyData.keyHash P (Str.ofString "__spec__"), (Value.str (Str.ofString "__spec__") 169), Value.none⟩, ⟨PyData.keyHash P (Str.ofString "__annotations__"), (Value.str (Str.ofString "__annotations__") 170), (Value.ref 6)⟩, ⟨PyData.keyHash P (Str.ofString "__builtins__"), (Value.str (Str.ofString "__builtins__") 171), (Value.ref 4)⟩, ⟨PyData.keyHash P (Str.ofString "__file__"), (Value.str (Str.ofString "__file__") 173), (Value.str (Str.ofString "/claim/cut.py") 172)⟩, ⟨PyData.keyHash P (Str.ofString "__cached__"), (Value.str (Str.ofString "__cached__") 174), Value.none⟩, ⟨PyData.keyHash P (Str.ofString "_wall"), (Value.str (Str.ofString "_wall") 193), (Value.ref 21)⟩, ⟨PyData.keyHash P (Str.ofString "b1_set"), (Value.str (Str.ofString "b1_set") 255), (Value.ref 29)⟩, ⟨PyData.keyHash P (Str.ofString "in_table_b1"), (Value.str (Str.ofString "in_table_b1") 262), (Value.ref 39)⟩, ⟨PyData.keyHash P (Str.ofString "b3_exceptions"), (Value.str (Str.ofString "b3_exceptions") 2213), (Value.ref 40)⟩, ⟨PyData.keyHash P (Str.ofString "map_table_b3"), (Value.str (Str.ofString "map_table_b3") 2221), (Value.ref 85)⟩, ⟨PyData.keyHash P (Str.ofString "bisect_right"), (Value.str (Str.ofString "bisect_right") 2237), (Value.ref 94)⟩, ⟨PyData.keyHash P (Str.ofString "bisect_left"), (Value.str (Str.ofString "bisect_left") 2251), (Value.ref 103)⟩, ⟨PyData.keyHash P (Str.ofString "Whitespace"), (Value.str (Str.ofString "Whitespace") 2351), (Value.ref 165)⟩, ⟨PyData.keyHash P (Str.ofString "_law_drawn"), (Value.str (Str.ofString "_law_drawn") 2369), (Value.ref 176)⟩, ⟨PyData.keyHash P (Str.ofString "_law_rows"), (Value.str (Str.ofString "_law_rows") 2378), (Value.ref 183)⟩] 19, slots := #[] }
noncomputable def o_13_12 (P : Params) : Obj := { cls := Value.none, dict := none, data := .fields #[(Value.int 1 0), (Value.int 0 0), (Value.ref 20), (Value.int 6 0), (Value.int 0 0), (Value.ref 38), (Value.int 9 0), (Value.int 0 0), (Value.ref 84), (Value.int 15 0), (Value.int 0 0), (Value.ref 93), (Value.int 35 0), (Value.int 0 0), (Value.ref 102), (Value.int 56 0), (Value.int 0 0), (Value.ref 109), (Value.int 105 0), (Value.int 0 0), (Value.ref 175), (Value.int 119 0), (Value.int 0 0), (Value.ref 182)], slots := #[] }
noncomputable def o_13_177 (P : Params) : Obj := { cls := (Value.type "tuple"), dict := none, data := .seq #[] 0, slots := #[] }
noncomputable def o_13_178 (P : Params) : Obj := { cls := Value.none, dict := none, data := .fields #[], slots := #[] }
noncomputable def o_13_179 (P : Params) : Obj := { cls := (Value.type "tuple"), dict := none, data := .seq #[(Value.str (Str.ofString "word") 2373), (Value.str (Str.ofString "rows") 2374), (Value.str (Str.ofString "k") 2375)] 0, slots := #[] }
noncomputable def o_13_180 (P : Params) : Obj := { cls := (Value.type "tuple"), dict := none, data := .seq #[] 0, slots := #[] }
noncomputable def o_13_181 (P : Params) : Obj := { cls := Value.none, dict := none, data := .func { name := (Str.ofString "_law_rows"), qualname := (Str.ofString "_law_rows"), params := stP (stN 13), body := .stmts (stB (stN 13)), scope := stS (stN 13), globals := 0, closure := [], defaults := Value.none, kwdefaults := Value.none, doc := Value.none, pyModule := Value.none, annotations := none, code := Value.none, closureTuple := Value.none, builtins := 0 }, slots := #[] }
noncomputable def o_13_182 (P : Params) : Obj := { cls := (Value.type "code"), dict := none, data := .fields #[(Value.str (Str.ofString "_law_rows") 2370), (Value.str (Str.ofString "_law_rows") 2371), (Value.str (Str.ofString "/claim/cut.py") 2372), (Value.int 119 0), (Value.int 1 0), (Value.int 0 0), (Value.int 0 0), (Value.int 3 0), (Value.ref 177), (Value.bool true), (Value.int 181 0), (Value.ref 178), Value.none, (Value.ref 179), (Value.ref 180), (Value.ref 181), (Value.int 2376 0), (Value.int 119 0), (Value.str (Str.ofString "/claim/cut.py") 2377)], slots := #[] }
noncomputable def o_13_183 (P : Params) : Obj := { cls := (Value.type "function"), dict := none, data := .func { name := (Str.ofString "_law_rows"), qualname := (Str.ofString "_law_rows"), params := stP (stN 13), body := .stmts (stB (stN 13)), scope := stS (stN 13), globals := 3, closure := [], defaults := Value.none, kwdefaults := Value.none, doc := Value.none, pyModule := (Value.str (Str.ofString "law_rw0123_02") 2352), annotations := none, code := (Value.ref 182), closureTuple := Value.none, builtins := 0 }, slots := #[] }
noncomputable def T_13 (P : Params) : BT := (.node (boot_o_0 P) (.node (boot_o_1 P) (.node (o_13_3 P) (.node (boot_o_7 P) (.node (o_0_15 P) (.node (o_2_31 P) (.node (dSub 23) (.node (o_10_127 P) .nil .nil) .nil) (.node (o_8_95 P) (.node (o_10_159 P) .nil .nil) .nil)) (.node (dSub 7) (.node (o_5_79 P) (.node (o_10_143 P) .nil .nil) .nil) (.node (o_10_111 P) (.node (o_12_175 P) .nil .nil) .nil))) (.node (o_2_23 P) (.node (o_3_39 P) (.node (dSub 31) (.node (o_10_135 P) .nil .nil) .nil) (.node (o_8_103 P) (.node (o_10_167 P) .nil .nil) .nil)) (.node (dSub 15) (.node (o_7_87 P) (.node (o_10_151 P) .nil .nil) .nil) (.node (o_10_119 P) (.node (o_13_183 P) .nil .nil) .nil)))) (.node (o_a_11 P) (.node (o_0_19 P) (.node (o_3_35 P) (.node (dSub 27) (.node (o_10_131 P) .nil .nil) .nil) (.node (o_8_99 P) (.node (o_10_163 P) .nil .nil) .nil)) (.node (dSub 11) (.node (o_5_83 P) (.node (o_10_147 P) .nil .nil) .nil) (.node (o_10_115 P) (.node (o_13_179 P) .nil .nil) .nil))) (.node (o_2_27 P) (.node (dSub 3) (.node (dSub 35) (.node (o_10_139 P) .nil .nil) .nil) (.node (o_10_107 P) (.node (o_12_171 P) .nil .nil) .nil)) (.node (dSub 19) (.node (o_7_91 P) (.node (o_10_155 P) .nil .nil) .nil) (.node (o_10_123 P) .nil .nil))))) (.node (boot_o_5 P) (.node (boot_o_9 P) (.node (o_0_17 P) (.node (o_3_33 P) (.node (dSub 25) (.node (o_10_129 P) .nil .nil) .nil) (.node (o_8_97 P) (.node (o_10_161 P) .nil .nil) .nil)) (.node (dSub 9) (.node (o_5_81 P) (.node (o_10_145 P) .nil .nil) .nil) (.node (o_10_113 P) (.node (o_13_177 P) .nil .nil) .nil))) (.node (o_2_25 P) (.node (dSub 1) (.node (dSub 33) (.node (o_10_137 P) .nil .nil) .nil) (.node (o_10_105 P) (.node (o_10_169 P) .nil .nil) .nil)) (.node (dSub 17) (.node (o_7_89 P) (.node (o_10_153 P) .nil .nil) .nil) (.node (o_10_121 P) .nil .nil)))) (.node (o_a_13 P) (.node (o_0_21 P) (.node (o_3_37 P) (.node (dSub 29) (.node (o_10_133 P) .nil .nil) .nil) (.node (o_8_101 P) (.node (o_10_165 P) .nil .nil) .nil)) (.node (dSub 13) (.node (o_5_85 P) (.node (o_10_149 P) .nil .nil) .nil) (.node (o_10_117 P) (.node (o_13_181 P) .nil .nil) .nil))) (.node (o_2_29 P) (.node (dSub 5) (.node (dSub 37) (.node (o_10_141 P) .nil .nil) .nil) (.node (o_10_109 P) (.node (o_12_173 P) .nil .nil) .nil)) (.node (dSub 21) (.node (o_7_93 P) (.node (o_10_157 P) .nil .nil) .nil) (.node (o_10_125 P) .nil .nil)))))) (.node (boot_o_2 P) (.node (boot_o_4 P) (.node (boot_o_8 P) (.node (o_0_16 P) (.node (o_2_32 P) (.node (dSub 24) (.node (o_10_128 P) .nil .nil) .nil) (.node (o_8_96 P) (.node (o_10_160 P) .nil .nil) .nil)) (.node (dSub 8) (.node (o_5_80 P) (.node (o_10_144 P) .nil .nil) .nil) (.node (o_10_112 P) (.node (o_12_176 P) .nil .nil) .nil))) (.node (o_2_24 P) (.node (dMain) (.node (dSub 32) (.node (o_10_136 P) .nil .nil) .nil) (.node (o_10_104 P) (.node (o_10_168 P) .nil .nil) .nil)) (.node (dSub 16) (.node (o_7_88 P) (.node (o_10_152 P) .nil .nil) .nil) (.node (o_10_120 P) .nil .nil)))) (.node (o_13_12 P) (.node (o_0_20 P) (.node (o_3_36 P) (.node (dSub 28) (.node (o_10_132 P) .nil .nil) .nil) (.node (o_8_100 P) (.node (o_10_164 P) .nil .nil) .nil)) (.node (dSub 12) (.node (o_5_84 P) (.node (o_10_148 P) .nil .nil) .nil) (.node (o_10_116 P) (.node (o_13_180 P) .nil .nil) .nil))) (.node (o_2_28 P) (.node (dSub 4) (.node (dSub 36) (.node (o_10_140 P) .nil .nil) .nil) (.node (o_10_108 P) (.node (o_12_172 P) .nil .nil) .nil)) (.node (dSub 20) (.node (o_7_92 P) (.node (o_10_156 P) .nil .nil) .nil) (.node (o_10_124 P) .nil .nil))))) (.node (boot_o_6 P) (.node (boot_o_10 P) (.node (o_0_18 P) (.node (o_3_34 P) (.node (dSub 26) (.node (o_10_130 P) .nil .nil) .nil) (.node (o_8_98 P) (.node (o_10_162 P) .nil .nil) .nil)) (.node (dSub 10) (.node (o_5_82 P) (.node (o_10_146 P) .nil .nil) .nil) (.node (o_10_114 P) (.node (o_13_178 P) .nil .nil) .nil))) (.node (o_2_26 P) (.node (dSub 2) (.node (dSub 34) (.node (o_10_138 P) .nil .nil) .nil) (.node (o_10_106 P) (.node (o_12_170 P) .nil .nil) .nil)) (.node (dSub 18) (.node (o_7_90 P) (.node (o_10_154 P) .nil .nil) .nil) (.node (o_10_122 P) .nil .nil)))) (.node (o_a_14 P) (.node (o_2_22 P) (.node (o_3_38 P) (.node (dSub 30) (.node (o_10_134 P) .nil .nil) .nil) (.node (o_8_102 P) (.node (o_10_166 P) .nil .nil) .nil)) (.node (dSub 14) (.node (o_7_86 P) (.node (o_10_150 P) .nil .nil) .nil) (.node (o_10_118 P) (.node (o_13_182 P) .nil .nil) .nil))) (.node (o_2_30 P) (.node (dSub 6) (.node (dLast) (.node (o_10_142 P) .nil .nil) .nil) (.node (o_10_110 P) (.node (o_12_174 P) .nil .nil) .nil)) (.node (dSub 22) (.node (o_7_94 P) (.node (o_10_158 P) .nil .nil) .nil) (.node (o_10_126 P) .nil .nil)))))))
noncomputable def S_13 (w : World) (os : OsState) : SharedT := ⟨T_13 w.params, 184, lifeT w, Array.mk [], boot_drawn, 2379, os⟩
noncomputable abbrev q_13 : Pos := ⟨119, 0, 126, 15⟩
noncomputable def o_14_3 (P : Params) : Obj := { cls := (Value.type "dict"), dict := none, data := .dict #[⟨PyData.keyHash P (Str.ofString "__name__"), (Value.str (Str.ofString "__name__") 165), (Value.str (Str.ofString "law_rw0123_02") 2352)⟩, ⟨PyData.keyHash P (Str.ofString "__doc__"), (Value.str (Str.ofString "__doc__") 166), Value.none⟩, ⟨PyData.keyHash P (Str.ofString "__package__"), (Value.str (Str.ofString "__package__") 167), Value.none⟩, ⟨PyData.keyHash P (Str.ofString "__loader__"), (Value.str (Str.ofString "__loader__") 168), (Value.builtin "__main__.__loader__#opaque")⟩, ⟨PyData.keyHash P (Str.ofString "__spec__"), (Value.str (Str.ofString "__spec__") 169), Value.none⟩, ⟨PyData.keyHash P (Str.ofString "__annotations__"), (Value.str (Str.ofString "__annotations__") 170), (Value.ref 6)⟩, ⟨PyData.keyHash P (Str.ofString "__builtins__"), (Value.str (Str.ofString "__builtins__") 171), (Value.ref 4)⟩, ⟨PyData.keyHash P (Str.ofString "__file__"), (Value.str (Str.ofString "__file__") 173), (Value.str (Str.ofString "/claim/cut.py") 172)⟩, ⟨PyData.keyHash P (Str.ofString "__cached__"), (Value.str (Str.ofString "__cached__") 174), Value.none⟩, ⟨PyData.keyHash P (Str.ofString "_wall"), (Value.str (Str.ofString "_wall") 193), (Value.ref 21)⟩, ⟨PyData.keyHash P (Str.ofString "b1_set"), (Value.str (Str.ofString "b1_set") 255), (Value.ref 29)⟩, ⟨PyData.keyHash P (Str.ofString "in_table_b1"), (Value.str (Str.ofString "in_table_b1") 262), (Value.ref 39)⟩, ⟨PyData.keyHash P (Str.ofString "b3_exceptions"), (Value.str (Str.ofString "b3_exceptions") 2213), (Value.ref 40)⟩, ⟨PyData.keyHash P (Str.ofString "map_table_b3"), (Value.str (Str.ofString "map_table_b3") 2221), (Value.ref 85)⟩, ⟨PyData.keyHash P (Str.ofString "bisect_right"), (Value.str (Str.ofString "bisect_right") 2237), (Value.ref 94)⟩, ⟨PyData.keyHash P (Str.ofString "bisect_left"), (Value.str (Str.ofString "bisect_left") 2251), (Value.ref 103)⟩, ⟨PyData.keyHash P (Str.ofString "Whitespace"), (Value.str (Str.ofString "Whitespace") 2351), (Value.ref 165)⟩, ⟨PyData.keyHash P (Str.ofString "_law_drawn"), (Value.str (Str.ofString "_law_drawn") 2369), (Value.ref 176)⟩, ⟨PyData.keyHash P (Str.ofString "_law_rows"), (Value.str (Str.ofString "_law_rows") 2378), (Value.ref 183)⟩, ⟨PyData.keyHash P (Str.ofString "_law_changed"), (Value.str (Str.ofString "_law_changed") 2389), (Value.ref 190)⟩] 20, slots := #[] }
noncomputable def o_14_12 (P : Params) : Obj := { cls := Value.none, dict := none, data := .fields #[(Value.int 1 0), (Value.int 0 0), (Value.ref 20), (Value.int 6 0), (Value.int 0 0), (Value.ref 38), (Value.int 9 0), (Value.int 0 0), (Value.ref 84), (Value.int 15 0), (Value.int 0 0), (Value.ref 93), (Value.int 35 0), (Value.int 0 0), (Value.ref 102), (Value.int 56 0), (Value.int 0 0), (Value.ref 109), (Value.int 105 0), (Value.int 0 0), (Value.ref 175), (Value.int 119 0), (Value.int 0 0), (Value.ref 182), (Value.int 127 0), (Value.int 0 0), (Value.ref 189)], slots := #[] }
noncomputable def o_14_184 (P : Params) : Obj := { cls := (Value.type "tuple"), dict := none, data := .seq #[] 0, slots := #[] }
noncomputable def o_14_185 (P : Params) : Obj := { cls := Value.none, dict := none, data := .fields #[], slots := #[] }
noncomputable def o_14_186 (P : Params) : Obj := { cls := (Value.type "tuple"), dict := none, data := .seq #[(Value.str (Str.ofString "word") 2382), (Value.str (Str.ofString "size") 2383), (Value.str (Str.ofString "costs") 2384), (Value.str (Str.ofString "k") 2385), (Value.str (Str.ofString "least") 2386)] 0, slots := #[] }
noncomputable def o_14_187 (P : Params) : Obj := { cls := (Value.type "tuple"), dict := none, data := .seq #[] 0, slots := #[] }
noncomputable def o_14_188 (P : Params) : Obj := { cls := Value.none, dict := none, data := .func { name := (Str.ofString "_law_changed"), qualname := (Str.ofString "_law_changed"), params := stP (stN 14), body := .stmts (stB (stN 14)), scope := stS (stN 14), globals := 0, closure := [], defaults := Value.none, kwdefaults := Value.none, doc := Value.none, pyModule := Value.none, annotations := none, code := Value.none, closureTuple := Value.none, builtins := 0 }, slots := #[] }
noncomputable def o_14_189 (P : Params) : Obj := { cls := (Value.type "code"), dict := none, data := .fields #[(Value.str (Str.ofString "_law_changed") 2379), (Value.str (Str.ofString "_law_changed") 2380), (Value.str (Str.ofString "/claim/cut.py") 2381), (Value.int 127 0), (Value.int 2 0), (Value.int 0 0), (Value.int 0 0), (Value.int 3 0), (Value.ref 184), (Value.bool true), (Value.int 181 0), (Value.ref 185), Value.none, (Value.ref 186), (Value.ref 187), (Value.ref 188), (Value.int 2387 0), (Value.int 127 0), (Value.str (Str.ofString "/claim/cut.py") 2388)], slots := #[] }
noncomputable def o_14_190 (P : Params) : Obj := { cls := (Value.type "function"), dict := none, data := .func { name := (Str.ofString "_law_changed"), qualname := (Str.ofString "_law_changed"), params := stP (stN 14), body := .stmts (stB (stN 14)), scope := stS (stN 14), globals := 3, closure := [], defaults := Value.none, kwdefaults := Value.none, doc := Value.none, pyModule := (Value.str (Str.ofString "law_rw0123_02") 2352), annotations := none, code := (Value.ref 189), closureTuple := Value.none, builtins := 0 }, slots := #[] }
noncomputable def T_14 (P : Params) : BT := (.node (boot_o_0 P) (.node (boot_o_1 P) (.node (o_14_3 P) (.node (boot_o_7 P) (.node (o_0_15 P) (.node (o_2_31 P) (.node (dSub 23) (.node (o_10_127 P) .nil .nil) .nil) (.node (o_8_95 P) (.node (o_10_159 P) .nil .nil) .nil)) (.node (dSub 7) (.node (o_5_79 P) (.node (o_10_143 P) .nil .nil) .nil) (.node (o_10_111 P) (.node (o_12_175 P) .nil .nil) .nil))) (.node (o_2_23 P) (.node (o_3_39 P) (.node (dSub 31) (.node (o_10_135 P) .nil .nil) .nil) (.node (o_8_103 P) (.node (o_10_167 P) .nil .nil) .nil)) (.node (dSub 15) (.node (o_7_87 P) (.node (o_10_151 P) .nil .nil) .nil) (.node (o_10_119 P) (.node (o_13_183 P) .nil .nil) .nil)))) (.node (o_a_11 P) (.node (o_0_19 P) (.node (o_3_35 P) (.node (dSub 27) (.node (o_10_131 P) .nil .nil) .nil) (.node (o_8_99 P) (.node (o_10_163 P) .nil .nil) .nil)) (.node (dSub 11) (.node (o_5_83 P) (.node (o_10_147 P) .nil .nil) .nil) (.node (o_10_115 P) (.node (o_13_179 P) .nil .nil) .nil))) (.node (o_2_27 P) (.node (dSub 3) (.node (dSub 35) (.node (o_10_139 P) .nil .nil) .nil) (.node (o_10_107 P) (.node (o_12_171 P) .nil .nil) .nil)) (.node (dSub 19) (.node (o_7_91 P) (.node (o_10_155 P) .nil .nil) .nil) (.node (o_10_123 P) (.node (o_14_187 P) .nil .nil) .nil))))) (.node (boot_o_5 P) (.node (boot_o_9 P) (.node (o_0_17 P) (.node (o_3_33 P) (.node (dSub 25) (.node (o_10_129 P) .nil .nil) .nil) (.node (o_8_97 P) (.node (o_10_161 P) .nil .nil) .nil)) (.node (dSub 9) (.node (o_5_81 P) (.node (o_10_145 P) .nil .nil) .nil) (.node (o_10_113 P) (.node (o_13_177 P) .nil .nil) .nil))) (.node (o_2_25 P) (.node (dSub 1) (.node (dSub 33) (.node (o_10_137 P) .nil .nil) .nil) (.node (o_10_105 P) (.node (o_10_169 P) .nil .nil) .nil)) (.node (dSub 17) (.node (o_7_89 P) (.node (o_10_153 P) .nil .nil) .nil) (.node (o_10_121 P) (.node (o_14_185 P) .nil .nil) .nil)))) (.node (o_a_13 P) (.node (o_0_21 P) (.node (o_3_37 P) (.node (dSub 29) (.node (o_10_133 P) .nil .nil) .nil) (.node (o_8_101 P) (.node (o_10_165 P) .nil .nil) .nil)) (.node (dSub 13) (.node (o_5_85 P) (.node (o_10_149 P) .nil .nil) .nil) (.node (o_10_117 P) (.node (o_13_181 P) .nil .nil) .nil))) (.node (o_2_29 P) (.node (dSub 5) (.node (dSub 37) (.node (o_10_141 P) .nil .nil) .nil) (.node (o_10_109 P) (.node (o_12_173 P) .nil .nil) .nil)) (.node (dSub 21) (.node (o_7_93 P) (.node (o_10_157 P) .nil .nil) .nil) (.node (o_10_125 P) (.node (o_14_189 P) .nil .nil) .nil)))))) (.node (boot_o_2 P) (.node (boot_o_4 P) (.node (boot_o_8 P) (.node (o_0_16 P) (.node (o_2_32 P) (.node (dSub 24) (.node (o_10_128 P) .nil .nil) .nil) (.node (o_8_96 P) (.node (o_10_160 P) .nil .nil) .nil)) (.node (dSub 8) (.node (o_5_80 P) (.node (o_10_144 P) .nil .nil) .nil) (.node (o_10_112 P) (.node (o_12_176 P) .nil .nil) .nil))) (.node (o_2_24 P) (.node (dMain) (.node (dSub 32) (.node (o_10_136 P) .nil .nil) .nil) (.node (o_10_104 P) (.node (o_10_168 P) .nil .nil) .nil)) (.node (dSub 16) (.node (o_7_88 P) (.node (o_10_152 P) .nil .nil) .nil) (.node (o_10_120 P) (.node (o_14_184 P) .nil .nil) .nil)))) (.node (o_14_12 P) (.node (o_0_20 P) (.node (o_3_36 P) (.node (dSub 28) (.node (o_10_132 P) .nil .nil) .nil) (.node (o_8_100 P) (.node (o_10_164 P) .nil .nil) .nil)) (.node (dSub 12) (.node (o_5_84 P) (.node (o_10_148 P) .nil .nil) .nil) (.node (o_10_116 P) (.node (o_13_180 P) .nil .nil) .nil))) (.node (o_2_28 P) (.node (dSub 4) (.node (dSub 36) (.node (o_10_140 P) .nil .nil) .nil) (.node (o_10_108 P) (.node (o_12_172 P) .nil .nil) .nil)) (.node (dSub 20) (.node (o_7_92 P) (.node (o_10_156 P) .nil .nil) .nil) (.node (o_10_124 P) (.node (o_14_188 P) .nil .nil) .nil))))) (.node (boot_o_6 P) (.node (boot_o_10 P) (.node (o_0_18 P) (.node (o_3_34 P) (.node (dSub 26) (.node (o_10_130 P) .nil .nil) .nil) (.node (o_8_98 P) (.node (o_10_162 P) .nil .nil) .nil)) (.node (dSub 10) (.node (o_5_82 P) (.node (o_10_146 P) .nil .nil) .nil) (.node (o_10_114 P) (.node (o_13_178 P) .nil .nil) .nil))) (.node (o_2_26 P) (.node (dSub 2) (.node (dSub 34) (.node (o_10_138 P) .nil .nil) .nil) (.node (o_10_106 P) (.node (o_12_170 P) .nil .nil) .nil)) (.node (dSub 18) (.node (o_7_90 P) (.node (o_10_154 P) .nil .nil) .nil) (.node (o_10_122 P) (.node (o_14_186 P) .nil .nil) .nil)))) (.node (o_a_14 P) (.node (o_2_22 P) (.node (o_3_38 P) (.node (dSub 30) (.node (o_10_134 P) .nil .nil) .nil) (.node (o_8_102 P) (.node (o_10_166 P) .nil .nil) .nil)) (.node (dSub 14) (.node (o_7_86 P) (.node (o_10_150 P) .nil .nil) .nil) (.node (o_10_118 P) (.node (o_13_182 P) .nil .nil) .nil))) (.node (o_2_30 P) (.node (dSub 6) (.node (dLast) (.node (o_10_142 P) .nil .nil) .nil) (.node (o_10_110 P) (.node (o_12_174 P) .nil .nil) .nil)) (.node (dSub 22) (.node (o_7_94 P) (.node (o_10_158 P) .nil .nil) .nil) (.node (o_10_126 P) (.node (o_14_190 P) .nil .nil) .nil)))))))
noncomputable def S_14 (w : World) (os : OsState) : SharedT := ⟨T_14 w.params, 191, lifeT w, Array.mk [], boot_drawn, 2390, os⟩
noncomputable abbrev q_14 : Pos := ⟨127, 0, 135, 21⟩
noncomputable def o_15_3 (P : Params) : Obj := { cls := (Value.type "dict"), dict := none, data := .dict #[⟨PyData.keyHash P (Str.ofString "__name__"), (Value.str (Str.ofString "__name__") 165), (Value.str (Str.ofString "law_rw0123_02") 2352)⟩, ⟨PyData.keyHash P (Str.ofString "__doc__"), (Value.str (Str.ofString "__doc__") 166), Value.none⟩, ⟨PyData.keyHash P (Str.ofString "__package__"), (Value.str (Str.ofString "__package__") 167), Value.none⟩, ⟨PyData.keyHash P (Str.ofString "__loader__"), (Value.str (Str.ofString "__loader__") 168), (Value.builtin "__main__.__loader__#opaque")⟩, ⟨PyData.keyHash P (Str.ofString "__spec__"), (Value.str (Str.ofString "__spec__") 169), Value.none⟩, ⟨PyData.keyHash P (Str.ofString "__annotations__"), (Value.str (Str.ofString "__annotations__") 170), (Value.ref 6)⟩, ⟨PyData.keyHash P (Str.ofString "__builtins__"), (Value.str (Str.ofString "__builtins__") 171), (Value.ref 4)⟩, ⟨PyData.keyHash P (Str.ofString "__file__"), (Value.str (Str.ofString "__file__") 173), (Value.str (Str.ofString "/claim/cut.py") 172)⟩, ⟨PyData.keyHash P (Str.ofString "__cached__"), (Value.str (Str.ofString "__cached__") 174), Value.none⟩, ⟨PyData.keyHash P (Str.ofString "_wall"), (Value.str (Str.ofString "_wall") 193), (Value.ref 21)⟩, ⟨PyData.keyHash P (Str.ofString "b1_set"), (Value.str (Str.ofString "b1_set") 255), (Value.ref 29)⟩, ⟨PyData.keyHash P (Str.ofString "in_table_b1"), (Value.str (Str.ofString "in_table_b1") 262), (Value.ref 39)⟩, ⟨PyData.keyHash P (Str.ofString "b3_exceptions"), (Value.str (Str.ofString "b3_exceptions") 2213), (Value.ref 40)⟩, ⟨PyData.keyHash P (Str.ofString "map_table_b3"), (Value.str (Str.ofString "map_table_b3") 2221), (Value.ref 85)⟩, ⟨PyData.keyHash P (Str.ofString "bisect_right"), (Value.str (Str.ofString "bisect_right") 2237), (Value.ref 94)⟩, ⟨PyData.keyHash P (Str.ofString "bisect_left"), (Value.str (Str.ofString "bisect_left") 2251), (Value.ref 103)⟩, ⟨PyData.keyHash P (Str.ofString "Whitespace"), (Value.str (Str.ofString "Whitespace") 2351), (Value.ref 165)⟩, ⟨PyData.keyHash P (Str.ofString "_law_drawn"), (Value.str (Str.ofString "_law_drawn") 2369), (Value.ref 176)⟩, ⟨PyData.keyHash P (Str.ofString "_law_rows"), (Value.str (Str.ofString "_law_rows") 2378), (Value.ref 183)⟩, ⟨PyData.keyHash P (Str.ofString "_law_changed"), (Value.str (Str.ofString "_law_changed") 2389), (Value.ref 190)⟩, ⟨PyData.keyHash P (Str.ofString "_law_put_in"), (Value.str (Str.ofString "_law_put_in") 2400), (Value.ref 197)⟩] 21, slots := #[] }
noncomputable def o_15_12 (P : Params) : Obj := { cls := Value.none, dict := none, data := .fields #[(Value.int 1 0), (Value.int 0 0), (Value.ref 20), (Value.int 6 0), (Value.int 0 0), (Value.ref 38), (Value.int 9 0), (Value.int 0 0), (Value.ref 84), (Value.int 15 0), (Value.int 0 0), (Value.ref 93), (Value.int 35 0), (Value.int 0 0), (Value.ref 102), (Value.int 56 0), (Value.int 0 0), (Value.ref 109), (Value.int 105 0), (Value.int 0 0), (Value.ref 175), (Value.int 119 0), (Value.int 0 0), (Value.ref 182), (Value.int 127 0), (Value.int 0 0), (Value.ref 189), (Value.int 136 0), (Value.int 0 0), (Value.ref 196)], slots := #[] }
noncomputable def o_15_191 (P : Params) : Obj := { cls := (Value.type "tuple"), dict := none, data := .seq #[] 0, slots := #[] }
noncomputable def o_15_192 (P : Params) : Obj := { cls := Value.none, dict := none, data := .fields #[], slots := #[] }
noncomputable def o_15_193 (P : Params) : Obj := { cls := (Value.type "tuple"), dict := none, data := .seq #[(Value.str (Str.ofString "word") 2393), (Value.str (Str.ofString "size") 2394), (Value.str (Str.ofString "costs") 2395), (Value.str (Str.ofString "k") 2396), (Value.str (Str.ofString "least") 2397)] 0, slots := #[] }
noncomputable def o_15_194 (P : Params) : Obj := { cls := (Value.type "tuple"), dict := none, data := .seq #[] 0, slots := #[] }
noncomputable def o_15_195 (P : Params) : Obj := { cls := Value.none, dict := none, data := .func { name := (Str.ofString "_law_put_in"), qualname := (Str.ofString "_law_put_in"), params := stP (stN 15), body := .stmts (stB (stN 15)), scope := stS (stN 15), globals := 0, closure := [], defaults := Value.none, kwdefaults := Value.none, doc := Value.none, pyModule := Value.none, annotations := none, code := Value.none, closureTuple := Value.none, builtins := 0 }, slots := #[] }
noncomputable def o_15_196 (P : Params) : Obj := { cls := (Value.type "code"), dict := none, data := .fields #[(Value.str (Str.ofString "_law_put_in") 2390), (Value.str (Str.ofString "_law_put_in") 2391), (Value.str (Str.ofString "/claim/cut.py") 2392), (Value.int 136 0), (Value.int 2 0), (Value.int 0 0), (Value.int 0 0), (Value.int 3 0), (Value.ref 191), (Value.bool true), (Value.int 181 0), (Value.ref 192), Value.none, (Value.ref 193), (Value.ref 194), (Value.ref 195), (Value.int 2398 0), (Value.int 136 0), (Value.str (Str.ofString "/claim/cut.py") 2399)], slots := #[] }
noncomputable def o_15_197 (P : Params) : Obj := { cls := (Value.type "function"), dict := none, data := .func { name := (Str.ofString "_law_put_in"), qualname := (Str.ofString "_law_put_in"), params := stP (stN 15), body := .stmts (stB (stN 15)), scope := stS (stN 15), globals := 3, closure := [], defaults := Value.none, kwdefaults := Value.none, doc := Value.none, pyModule := (Value.str (Str.ofString "law_rw0123_02") 2352), annotations := none, code := (Value.ref 196), closureTuple := Value.none, builtins := 0 }, slots := #[] }
noncomputable def T_15 (P : Params) : BT := (.node (boot_o_0 P) (.node (boot_o_1 P) (.node (o_15_3 P) (.node (boot_o_7 P) (.node (o_0_15 P) (.node (o_2_31 P) (.node (dSub 23) (.node (o_10_127 P) .nil .nil) (.node (o_15_191 P) .nil .nil)) (.node (o_8_95 P) (.node (o_10_159 P) .nil .nil) .nil)) (.node (dSub 7) (.node (o_5_79 P) (.node (o_10_143 P) .nil .nil) .nil) (.node (o_10_111 P) (.node (o_12_175 P) .nil .nil) .nil))) (.node (o_2_23 P) (.node (o_3_39 P) (.node (dSub 31) (.node (o_10_135 P) .nil .nil) .nil) (.node (o_8_103 P) (.node (o_10_167 P) .nil .nil) .nil)) (.node (dSub 15) (.node (o_7_87 P) (.node (o_10_151 P) .nil .nil) .nil) (.node (o_10_119 P) (.node (o_13_183 P) .nil .nil) .nil)))) (.node (o_a_11 P) (.node (o_0_19 P) (.node (o_3_35 P) (.node (dSub 27) (.node (o_10_131 P) .nil .nil) (.node (o_15_195 P) .nil .nil)) (.node (o_8_99 P) (.node (o_10_163 P) .nil .nil) .nil)) (.node (dSub 11) (.node (o_5_83 P) (.node (o_10_147 P) .nil .nil) .nil) (.node (o_10_115 P) (.node (o_13_179 P) .nil .nil) .nil))) (.node (o_2_27 P) (.node (dSub 3) (.node (dSub 35) (.node (o_10_139 P) .nil .nil) .nil) (.node (o_10_107 P) (.node (o_12_171 P) .nil .nil) .nil)) (.node (dSub 19) (.node (o_7_91 P) (.node (o_10_155 P) .nil .nil) .nil) (.node (o_10_123 P) (.node (o_14_187 P) .nil .nil) .nil))))) (.node (boot_o_5 P) (.node (boot_o_9 P) (.node (o_0_17 P) (.node (o_3_33 P) (.node (dSub 25) (.node (o_10_129 P) .nil .nil) (.node (o_15_193 P) .nil .nil)) (.node (o_8_97 P) (.node (o_10_161 P) .nil .nil) .nil)) (.node (dSub 9) (.node (o_5_81 P) (.node (o_10_145 P) .nil .nil) .nil) (.node (o_10_113 P) (.node (o_13_177 P) .nil .nil) .nil))) (.node (o_2_25 P) (.node (dSub 1) (.node (dSub 33) (.node (o_10_137 P) .nil .nil) .nil) (.node (o_10_105 P) (.node (o_10_169 P) .nil .nil) .nil)) (.node (dSub 17) (.node (o_7_89 P) (.node (o_10_153 P) .nil .nil) .nil) (.node (o_10_121 P) (.node (o_14_185 P) .nil .nil) .nil)))) (.node (o_a_13 P) (.node (o_0_21 P) (.node (o_3_37 P) (.node (dSub 29) (.node (o_10_133 P) .nil .nil) (.node (o_15_197 P) .nil .nil)) (.node (o_8_101 P) (.node (o_10_165 P) .nil .nil) .nil)) (.node (dSub 13) (.node (o_5_85 P) (.node (o_10_149 P) .nil .nil) .nil) (.node (o_10_117 P) (.node (o_13_181 P) .nil .nil) .nil))) (.node (o_2_29 P) (.node (dSub 5) (.node (dSub 37) (.node (o_10_141 P) .nil .nil) .nil) (.node (o_10_109 P) (.node (o_12_173 P) .nil .nil) .nil)) (.node (dSub 21) (.node (o_7_93 P) (.node (o_10_157 P) .nil .nil) .nil) (.node (o_10_125 P) (.node (o_14_189 P) .nil .nil) .nil)))))) (.node (boot_o_2 P) (.node (boot_o_4 P) (.node (boot_o_8 P) (.node (o_0_16 P) (.node (o_2_32 P) (.node (dSub 24) (.node (o_10_128 P) .nil .nil) (.node (o_15_192 P) .nil .nil)) (.node (o_8_96 P) (.node (o_10_160 P) .nil .nil) .nil)) (.node (dSub 8) (.node (o_5_80 P) (.node (o_10_144 P) .nil .nil) .nil) (.node (o_10_112 P) (.node (o_12_176 P) .nil .nil) .nil))) (.node (o_2_24 P) (.node (dMain) (.node (dSub 32) (.node (o_10_136 P) .nil .nil) .nil) (.node (o_10_104 P) (.node (o_10_168 P) .nil .nil) .nil)) (.node (dSub 16) (.node (o_7_88 P) (.node (o_10_152 P) .nil .nil) .nil) (.node (o_10_120 P) (.node (o_14_184 P) .nil .nil) .nil)))) (.node (o_15_12 P) (.node (o_0_20 P) (.node (o_3_36 P) (.node (dSub 28) (.node (o_10_132 P) .nil .nil) (.node (o_15_196 P) .nil .nil)) (.node (o_8_100 P) (.node (o_10_164 P) .nil .nil) .nil)) (.node (dSub 12) (.node (o_5_84 P) (.node (o_10_148 P) .nil .nil) .nil) (.node (o_10_116 P) (.node (o_13_180 P) .nil .nil) .nil))) (.node (o_2_28 P) (.node (dSub 4) (.node (dSub 36) (.node (o_10_140 P) .nil .nil) .nil) (.node (o_10_108 P) (.node (o_12_172 P) .nil .nil) .nil)) (.node (dSub 20) (.node (o_7_92 P) (.node (o_10_156 P) .nil .nil) .nil) (.node (o_10_124 P) (.node (o_14_188 P) .nil .nil) .nil))))) (.node (boot_o_6 P) (.node (boot_o_10 P) (.node (o_0_18 P) (.node (o_3_34 P) (.node (dSub 26) (.node (o_10_130 P) .nil .nil) (.node (o_15_194 P) .nil .nil)) (.node (o_8_98 P) (.node (o_10_162 P) .nil .nil) .nil)) (.node (dSub 10) (.node (o_5_82 P) (.node (o_10_146 P) .nil .nil) .nil) (.node (o_10_114 P) (.node (o_13_178 P) .nil .nil) .nil))) (.node (o_2_26 P) (.node (dSub 2) (.node (dSub 34) (.node (o_10_138 P) .nil .nil) .nil) (.node (o_10_106 P) (.node (o_12_170 P) .nil .nil) .nil)) (.node (dSub 18) (.node (o_7_90 P) (.node (o_10_154 P) .nil .nil) .nil) (.node (o_10_122 P) (.node (o_14_186 P) .nil .nil) .nil)))) (.node (o_a_14 P) (.node (o_2_22 P) (.node (o_3_38 P) (.node (dSub 30) (.node (o_10_134 P) .nil .nil) .nil) (.node (o_8_102 P) (.node (o_10_166 P) .nil .nil) .nil)) (.node (dSub 14) (.node (o_7_86 P) (.node (o_10_150 P) .nil .nil) .nil) (.node (o_10_118 P) (.node (o_13_182 P) .nil .nil) .nil))) (.node (o_2_30 P) (.node (dSub 6) (.node (dLast) (.node (o_10_142 P) .nil .nil) .nil) (.node (o_10_110 P) (.node (o_12_174 P) .nil .nil) .nil)) (.node (dSub 22) (.node (o_7_94 P) (.node (o_10_158 P) .nil .nil) .nil) (.node (o_10_126 P) (.node (o_14_190 P) .nil .nil) .nil)))))))
noncomputable def S_15 (w : World) (os : OsState) : SharedT := ⟨T_15 w.params, 198, lifeT w, Array.mk [], boot_drawn, 2401, os⟩
noncomputable abbrev q_15 : Pos := ⟨136, 0, 144, 21⟩
noncomputable def o_16_3 (P : Params) : Obj := { cls := (Value.type "dict"), dict := none, data := .dict #[⟨PyData.keyHash P (Str.ofString "__name__"), (Value.str (Str.ofString "__name__") 165), (Value.str (Str.ofString "law_rw0123_02") 2352)⟩, ⟨PyData.keyHash P (Str.ofString "__doc__"), (Value.str (Str.ofString "__doc__") 166), Value.none⟩, ⟨PyData.keyHash P (Str.ofString "__package__"), (Value.str (Str.ofString "__package__") 167), Value.none⟩, ⟨PyData.keyHash P (Str.ofString "__loader__"), (Value.str (Str.ofString "__loader__") 168), (Value.builtin "__main__.__loader__#opaque")⟩, ⟨PyData.keyHash P (Str.ofString "__spec__"), (Value.str (Str.ofString "__spec__") 169), Value.none⟩, ⟨PyData.keyHash P (Str.ofString "__annotations__"), (Value.str (Str.ofString "__annotations__") 170), (Value.ref 6)⟩, ⟨PyData.keyHash P (Str.ofString "__builtins__"), (Value.str (Str.ofString "__builtins__") 171), (Value.ref 4)⟩, ⟨PyData.keyHash P (Str.ofString "__file__"), (Value.str (Str.ofString "__file__") 173), (Value.str (Str.ofString "/claim/cut.py") 172)⟩, ⟨PyData.keyHash P (Str.ofString "__cached__"), (Value.str (Str.ofString "__cached__") 174), Value.none⟩, ⟨PyData.keyHash P (Str.ofString "_wall"), (Value.str (Str.ofString "_wall") 193), (Value.ref 21)⟩, ⟨PyData.keyHash P (Str.ofString "b1_set"), (Value.str (Str.ofString "b1_set") 255), (Value.ref 29)⟩, ⟨PyData.keyHash P (Str.ofString "in_table_b1"), (Value.str (Str.ofString "in_table_b1") 262), (Value.ref 39)⟩, ⟨PyData.keyHash P (Str.ofString "b3_exceptions"), (Value.str (Str.ofString "b3_exceptions") 2213), (Value.ref 40)⟩, ⟨PyData.keyHash P (Str.ofString "map_table_b3"), (Value.str (Str.ofString "map_table_b3") 2221), (Value.ref 85)⟩, ⟨PyData.keyHash P (Str.ofString "bisect_right"), (Value.str (Str.ofString "bisect_right") 2237), (Value.ref 94)⟩, ⟨PyData.keyHash P (Str.ofString "bisect_left"), (Value.str (Str.ofString "bisect_left") 2251), (Value.ref 103)⟩, ⟨PyData.keyHash P (Str.ofString "Whitespace"), (Value.str (Str.ofString "Whitespace") 2351), (Value.ref 165)⟩, ⟨PyData.keyHash P (Str.ofString "_law_drawn"), (Value.str (Str.ofString "_law_drawn") 2369), (Value.ref 176)⟩, ⟨PyData.keyHash P (Str.ofString "_law_rows"), (Value.str (Str.ofString "_law_rows") 2378), (Value.ref 183)⟩, ⟨PyData.keyHash P (Str.ofString "_law_changed"), (Value.str (Str.ofString "_law_changed") 2389), (Value.ref 190)⟩, ⟨PyData.keyHash P (Str.ofString "_law_put_in"), (Value.str (Str.ofString "_law_put_in") 2400), (Value.ref 197)⟩, ⟨PyData.keyHash P (Str.ofString "law"), (Value.str (Str.ofString "law") 2406), (Value.ref 202)⟩] 22, slots := #[] }
noncomputable def o_16_12 (P : Params) : Obj := { cls := Value.none, dict := none, data := .fields #[(Value.int 1 0), (Value.int 0 0), (Value.ref 20), (Value.int 6 0), (Value.int 0 0), (Value.ref 38), (Value.int 9 0), (Value.int 0 0), (Value.ref 84), (Value.int 15 0), (Value.int 0 0), (Value.ref 93), (Value.int 35 0), (Value.int 0 0), (Value.ref 102), (Value.int 56 0), (Value.int 0 0), (Value.ref 109), (Value.int 105 0), (Value.int 0 0), (Value.ref 175), (Value.int 119 0), (Value.int 0 0), (Value.ref 182), (Value.int 127 0), (Value.int 0 0), (Value.ref 189), (Value.int 136 0), (Value.int 0 0), (Value.ref 196), (Value.int 145 0), (Value.int 0 0), (Value.ref 201)], slots := #[] }
noncomputable def o_16_198 (P : Params) : Obj := { cls := (Value.type "tuple"), dict := none, data := .seq #[] 0, slots := #[] }
noncomputable def o_16_199 (P : Params) : Obj := { cls := Value.none, dict := none, data := .fields #[], slots := #[] }
noncomputable def o_16_200 (P : Params) : Obj := { cls := Value.none, dict := none, data := .func { name := (Str.ofString "law"), qualname := (Str.ofString "law"), params := stP (stN 16), body := .stmts (stB (stN 16)), scope := stS (stN 16), globals := 0, closure := [], defaults := Value.none, kwdefaults := Value.none, doc := Value.none, pyModule := Value.none, annotations := none, code := Value.none, closureTuple := Value.none, builtins := 0 }, slots := #[] }
noncomputable def o_16_201 (P : Params) : Obj := { cls := (Value.type "code"), dict := none, data := .fields #[(Value.str (Str.ofString "law") 2401), (Value.str (Str.ofString "law") 2402), (Value.str (Str.ofString "/claim/cut.py") 2403), (Value.int 145 0), (Value.int 1 0), (Value.int 0 0), (Value.int 0 0), (Value.int 3 0), (Value.ref 198), (Value.bool true), (Value.int 181 0), (Value.ref 199), Value.none, Value.none, Value.none, (Value.ref 200), (Value.int 2404 0), (Value.int 145 0), (Value.str (Str.ofString "/claim/cut.py") 2405)], slots := #[] }
noncomputable def o_16_202 (P : Params) : Obj := { cls := (Value.type "function"), dict := none, data := .func { name := (Str.ofString "law"), qualname := (Str.ofString "law"), params := stP (stN 16), body := .stmts (stB (stN 16)), scope := stS (stN 16), globals := 3, closure := [], defaults := Value.none, kwdefaults := Value.none, doc := Value.none, pyModule := (Value.str (Str.ofString "law_rw0123_02") 2352), annotations := none, code := (Value.ref 201), closureTuple := Value.none, builtins := 0 }, slots := #[] }
noncomputable def T_16 (P : Params) : BT := (.node (boot_o_0 P) (.node (boot_o_1 P) (.node (o_16_3 P) (.node (boot_o_7 P) (.node (o_0_15 P) (.node (o_2_31 P) (.node (dSub 23) (.node (o_10_127 P) .nil .nil) (.node (o_15_191 P) .nil .nil)) (.node (o_8_95 P) (.node (o_10_159 P) .nil .nil) .nil)) (.node (dSub 7) (.node (o_5_79 P) (.node (o_10_143 P) .nil .nil) .nil) (.node (o_10_111 P) (.node (o_12_175 P) .nil .nil) .nil))) (.node (o_2_23 P) (.node (o_3_39 P) (.node (dSub 31) (.node (o_10_135 P) .nil .nil) (.node (o_16_199 P) .nil .nil)) (.node (o_8_103 P) (.node (o_10_167 P) .nil .nil) .nil)) (.node (dSub 15) (.node (o_7_87 P) (.node (o_10_151 P) .nil .nil) .nil) (.node (o_10_119 P) (.node (o_13_183 P) .nil .nil) .nil)))) (.node (o_a_11 P) (.node (o_0_19 P) (.node (o_3_35 P) (.node (dSub 27) (.node (o_10_131 P) .nil .nil) (.node (o_15_195 P) .nil .nil)) (.node (o_8_99 P) (.node (o_10_163 P) .nil .nil) .nil)) (.node (dSub 11) (.node (o_5_83 P) (.node (o_10_147 P) .nil .nil) .nil) (.node (o_10_115 P) (.node (o_13_179 P) .nil .nil) .nil))) (.node (o_2_27 P) (.node (dSub 3) (.node (dSub 35) (.node (o_10_139 P) .nil .nil) .nil) (.node (o_10_107 P) (.node (o_12_171 P) .nil .nil) .nil)) (.node (dSub 19) (.node (o_7_91 P) (.node (o_10_155 P) .nil .nil) .nil) (.node (o_10_123 P) (.node (o_14_187 P) .nil .nil) .nil))))) (.node (boot_o_5 P) (.node (boot_o_9 P) (.node (o_0_17 P) (.node (o_3_33 P) (.node (dSub 25) (.node (o_10_129 P) .nil .nil) (.node (o_15_193 P) .nil .nil)) (.node (o_8_97 P) (.node (o_10_161 P) .nil .nil) .nil)) (.node (dSub 9) (.node (o_5_81 P) (.node (o_10_145 P) .nil .nil) .nil) (.node (o_10_113 P) (.node (o_13_177 P) .nil .nil) .nil))) (.node (o_2_25 P) (.node (dSub 1) (.node (dSub 33) (.node (o_10_137 P) .nil .nil) (.node (o_16_201 P) .nil .nil)) (.node (o_10_105 P) (.node (o_10_169 P) .nil .nil) .nil)) (.node (dSub 17) (.node (o_7_89 P) (.node (o_10_153 P) .nil .nil) .nil) (.node (o_10_121 P) (.node (o_14_185 P) .nil .nil) .nil)))) (.node (o_a_13 P) (.node (o_0_21 P) (.node (o_3_37 P) (.node (dSub 29) (.node (o_10_133 P) .nil .nil) (.node (o_15_197 P) .nil .nil)) (.node (o_8_101 P) (.node (o_10_165 P) .nil .nil) .nil)) (.node (dSub 13) (.node (o_5_85 P) (.node (o_10_149 P) .nil .nil) .nil) (.node (o_10_117 P) (.node (o_13_181 P) .nil .nil) .nil))) (.node (o_2_29 P) (.node (dSub 5) (.node (dSub 37) (.node (o_10_141 P) .nil .nil) .nil) (.node (o_10_109 P) (.node (o_12_173 P) .nil .nil) .nil)) (.node (dSub 21) (.node (o_7_93 P) (.node (o_10_157 P) .nil .nil) .nil) (.node (o_10_125 P) (.node (o_14_189 P) .nil .nil) .nil)))))) (.node (boot_o_2 P) (.node (boot_o_4 P) (.node (boot_o_8 P) (.node (o_0_16 P) (.node (o_2_32 P) (.node (dSub 24) (.node (o_10_128 P) .nil .nil) (.node (o_15_192 P) .nil .nil)) (.node (o_8_96 P) (.node (o_10_160 P) .nil .nil) .nil)) (.node (dSub 8) (.node (o_5_80 P) (.node (o_10_144 P) .nil .nil) .nil) (.node (o_10_112 P) (.node (o_12_176 P) .nil .nil) .nil))) (.node (o_2_24 P) (.node (dMain) (.node (dSub 32) (.node (o_10_136 P) .nil .nil) (.node (o_16_200 P) .nil .nil)) (.node (o_10_104 P) (.node (o_10_168 P) .nil .nil) .nil)) (.node (dSub 16) (.node (o_7_88 P) (.node (o_10_152 P) .nil .nil) .nil) (.node (o_10_120 P) (.node (o_14_184 P) .nil .nil) .nil)))) (.node (o_16_12 P) (.node (o_0_20 P) (.node (o_3_36 P) (.node (dSub 28) (.node (o_10_132 P) .nil .nil) (.node (o_15_196 P) .nil .nil)) (.node (o_8_100 P) (.node (o_10_164 P) .nil .nil) .nil)) (.node (dSub 12) (.node (o_5_84 P) (.node (o_10_148 P) .nil .nil) .nil) (.node (o_10_116 P) (.node (o_13_180 P) .nil .nil) .nil))) (.node (o_2_28 P) (.node (dSub 4) (.node (dSub 36) (.node (o_10_140 P) .nil .nil) .nil) (.node (o_10_108 P) (.node (o_12_172 P) .nil .nil) .nil)) (.node (dSub 20) (.node (o_7_92 P) (.node (o_10_156 P) .nil .nil) .nil) (.node (o_10_124 P) (.node (o_14_188 P) .nil .nil) .nil))))) (.node (boot_o_6 P) (.node (boot_o_10 P) (.node (o_0_18 P) (.node (o_3_34 P) (.node (dSub 26) (.node (o_10_130 P) .nil .nil) (.node (o_15_194 P) .nil .nil)) (.node (o_8_98 P) (.node (o_10_162 P) .nil .nil) .nil)) (.node (dSub 10) (.node (o_5_82 P) (.node (o_10_146 P) .nil .nil) .nil) (.node (o_10_114 P) (.node (o_13_178 P) .nil .nil) .nil))) (.node (o_2_26 P) (.node (dSub 2) (.node (dSub 34) (.node (o_10_138 P) .nil .nil) (.node (o_16_202 P) .nil .nil)) (.node (o_10_106 P) (.node (o_12_170 P) .nil .nil) .nil)) (.node (dSub 18) (.node (o_7_90 P) (.node (o_10_154 P) .nil .nil) .nil) (.node (o_10_122 P) (.node (o_14_186 P) .nil .nil) .nil)))) (.node (o_a_14 P) (.node (o_2_22 P) (.node (o_3_38 P) (.node (dSub 30) (.node (o_10_134 P) .nil .nil) (.node (o_16_198 P) .nil .nil)) (.node (o_8_102 P) (.node (o_10_166 P) .nil .nil) .nil)) (.node (dSub 14) (.node (o_7_86 P) (.node (o_10_150 P) .nil .nil) .nil) (.node (o_10_118 P) (.node (o_13_182 P) .nil .nil) .nil))) (.node (o_2_30 P) (.node (dSub 6) (.node (dLast) (.node (o_10_142 P) .nil .nil) .nil) (.node (o_10_110 P) (.node (o_12_174 P) .nil .nil) .nil)) (.node (dSub 22) (.node (o_7_94 P) (.node (o_10_158 P) .nil .nil) .nil) (.node (o_10_126 P) (.node (o_14_190 P) .nil .nil) .nil)))))))
noncomputable def S_16 (w : World) (os : OsState) : SharedT := ⟨T_16 w.params, 203, lifeT w, Array.mk [], boot_drawn, 2407, os⟩
noncomputable abbrev q_16 : Pos := ⟨145, 0, 183, 15⟩
noncomputable def T_f (P : Params) : BT := (.node (boot_o_0 P) (.node (boot_o_1 P) (.node (o_16_3 P) (.node (boot_o_7 P) (.node (o_0_15 P) (.node (o_2_31 P) (.node (dSub 23) (.node (o_10_127 P) .nil .nil) (.node (o_15_191 P) .nil .nil)) (.node (o_8_95 P) (.node (o_10_159 P) .nil .nil) .nil)) (.node (dSub 7) (.node (o_5_79 P) (.node (o_10_143 P) .nil .nil) .nil) (.node (o_10_111 P) (.node (o_12_175 P) .nil .nil) .nil))) (.node (o_2_23 P) (.node (o_3_39 P) (.node (dSub 31) (.node (o_10_135 P) .nil .nil) (.node (o_16_199 P) .nil .nil)) (.node (o_8_103 P) (.node (o_10_167 P) .nil .nil) .nil)) (.node (dSub 15) (.node (o_7_87 P) (.node (o_10_151 P) .nil .nil) .nil) (.node (o_10_119 P) (.node (o_13_183 P) .nil .nil) .nil)))) (.node (o_a_11 P) (.node (o_0_19 P) (.node (o_3_35 P) (.node (dSub 27) (.node (o_10_131 P) .nil .nil) (.node (o_15_195 P) .nil .nil)) (.node (o_8_99 P) (.node (o_10_163 P) .nil .nil) .nil)) (.node (dSub 11) (.node (o_5_83 P) (.node (o_10_147 P) .nil .nil) .nil) (.node (o_10_115 P) (.node (o_13_179 P) .nil .nil) .nil))) (.node (o_2_27 P) (.node (dSub 3) (.node (dSub 35) (.node (o_10_139 P) .nil .nil) .nil) (.node (o_10_107 P) (.node (o_12_171 P) .nil .nil) .nil)) (.node (dSub 19) (.node (o_7_91 P) (.node (o_10_155 P) .nil .nil) .nil) (.node (o_10_123 P) (.node (o_14_187 P) .nil .nil) .nil))))) (.node (boot_o_5 P) (.node (boot_o_9 P) (.node (o_0_17 P) (.node (o_3_33 P) (.node (dSub 25) (.node (o_10_129 P) .nil .nil) (.node (o_15_193 P) .nil .nil)) (.node (o_8_97 P) (.node (o_10_161 P) .nil .nil) .nil)) (.node (dSub 9) (.node (o_5_81 P) (.node (o_10_145 P) .nil .nil) .nil) (.node (o_10_113 P) (.node (o_13_177 P) .nil .nil) .nil))) (.node (o_2_25 P) (.node (dSub 1) (.node (dSub 33) (.node (o_10_137 P) .nil .nil) (.node (o_16_201 P) .nil .nil)) (.node (o_10_105 P) (.node (o_10_169 P) .nil .nil) .nil)) (.node (dSub 17) (.node (o_7_89 P) (.node (o_10_153 P) .nil .nil) .nil) (.node (o_10_121 P) (.node (o_14_185 P) .nil .nil) .nil)))) (.node (o_a_13 P) (.node (o_0_21 P) (.node (o_3_37 P) (.node (dSub 29) (.node (o_10_133 P) .nil .nil) (.node (o_15_197 P) .nil .nil)) (.node (o_8_101 P) (.node (o_10_165 P) .nil .nil) .nil)) (.node (dSub 13) (.node (o_5_85 P) (.node (o_10_149 P) .nil .nil) .nil) (.node (o_10_117 P) (.node (o_13_181 P) .nil .nil) .nil))) (.node (o_2_29 P) (.node (dSub 5) (.node (dSub 37) (.node (o_10_141 P) .nil .nil) .nil) (.node (o_10_109 P) (.node (o_12_173 P) .nil .nil) .nil)) (.node (dSub 21) (.node (o_7_93 P) (.node (o_10_157 P) .nil .nil) .nil) (.node (o_10_125 P) (.node (o_14_189 P) .nil .nil) .nil)))))) (.node (boot_o_2 P) (.node (boot_o_4 P) (.node (boot_o_8 P) (.node (o_0_16 P) (.node (o_2_32 P) (.node (dSub 24) (.node (o_10_128 P) .nil .nil) (.node (o_15_192 P) .nil .nil)) (.node (o_8_96 P) (.node (o_10_160 P) .nil .nil) .nil)) (.node (dSub 8) (.node (o_5_80 P) (.node (o_10_144 P) .nil .nil) .nil) (.node (o_10_112 P) (.node (o_12_176 P) .nil .nil) .nil))) (.node (o_2_24 P) (.node (dMain) (.node (dSub 32) (.node (o_10_136 P) .nil .nil) (.node (o_16_200 P) .nil .nil)) (.node (o_10_104 P) (.node (o_10_168 P) .nil .nil) .nil)) (.node (dSub 16) (.node (o_7_88 P) (.node (o_10_152 P) .nil .nil) .nil) (.node (o_10_120 P) (.node (o_14_184 P) .nil .nil) .nil)))) (.node (o_16_12 P) (.node (o_0_20 P) (.node (o_3_36 P) (.node (dSub 28) (.node (o_10_132 P) .nil .nil) (.node (o_15_196 P) .nil .nil)) (.node (o_8_100 P) (.node (o_10_164 P) .nil .nil) .nil)) (.node (dSub 12) (.node (o_5_84 P) (.node (o_10_148 P) .nil .nil) .nil) (.node (o_10_116 P) (.node (o_13_180 P) .nil .nil) .nil))) (.node (o_2_28 P) (.node (dSub 4) (.node (dSub 36) (.node (o_10_140 P) .nil .nil) .nil) (.node (o_10_108 P) (.node (o_12_172 P) .nil .nil) .nil)) (.node (dSub 20) (.node (o_7_92 P) (.node (o_10_156 P) .nil .nil) .nil) (.node (o_10_124 P) (.node (o_14_188 P) .nil .nil) .nil))))) (.node (boot_o_6 P) (.node (boot_o_10 P) (.node (o_0_18 P) (.node (o_3_34 P) (.node (dSub 26) (.node (o_10_130 P) .nil .nil) (.node (o_15_194 P) .nil .nil)) (.node (o_8_98 P) (.node (o_10_162 P) .nil .nil) .nil)) (.node (dSub 10) (.node (o_5_82 P) (.node (o_10_146 P) .nil .nil) .nil) (.node (o_10_114 P) (.node (o_13_178 P) .nil .nil) .nil))) (.node (o_2_26 P) (.node (dSub 2) (.node (dSub 34) (.node (o_10_138 P) .nil .nil) (.node (o_16_202 P) .nil .nil)) (.node (o_10_106 P) (.node (o_12_170 P) .nil .nil) .nil)) (.node (dSub 18) (.node (o_7_90 P) (.node (o_10_154 P) .nil .nil) .nil) (.node (o_10_122 P) (.node (o_14_186 P) .nil .nil) .nil)))) (.node (o_a_14 P) (.node (o_2_22 P) (.node (o_3_38 P) (.node (dSub 30) (.node (o_10_134 P) .nil .nil) (.node (o_16_198 P) .nil .nil)) (.node (o_8_102 P) (.node (o_10_166 P) .nil .nil) .nil)) (.node (dSub 14) (.node (o_7_86 P) (.node (o_10_150 P) .nil .nil) .nil) (.node (o_10_118 P) (.node (o_13_182 P) .nil .nil) .nil))) (.node (o_2_30 P) (.node (dSub 6) (.node (dLast) (.node (o_10_142 P) .nil .nil) .nil) (.node (o_10_110 P) (.node (o_12_174 P) .nil .nil) .nil)) (.node (dSub 22) (.node (o_7_94 P) (.node (o_10_158 P) .nil .nil) .nil) (.node (o_10_126 P) (.node (o_14_190 P) .nil .nil) .nil)))))))
noncomputable def S_f (w : World) (os : OsState) : SharedT := ⟨T_f w.params, 203, lifeT w, Array.mk [], boot_drawn, 2407, os⟩
noncomputable abbrev q_f : Pos := ⟨145, 0, 183, 15⟩
theorem run_a (w : World) (os : OsState) : topGo treeTable PySem.Challenge.pw_rw0123_02 w 11 annT 12 ⟨boot_heap w.params, Array.mk [], boot_drawn, boot_toks, os⟩ (topStub PySem.Challenge.pw_rw0123_02) = some ((S_a w os).abs, ⟨denote treeTable cT, cT, q_a, fB⟩) := by
  rw [PySem.W.Fast.te15667345088766844465, PySem.W.Fast.te11892475500146522536, PySem.W.Fast.te14364793385576792824]
  kernel_rfl
theorem run_0 (w : World) (os : OsState) : segRunT treeTable PySem.Challenge.pw_rw0123_02 w 11 annT 1 30 (S_b w os) ⟨(execs [stN 0] envT).wrap doneF deadEnd id id, cT, q_b, fB⟩ = some (.next, S_0 w os, cT, q_0) := by
  rw [PySem.W.Fast.te10110043849684766642, PySem.W.Fast.te14364793385576792824, PySem.W.Fast.te12563942051412417395]
  kernel_rfl
theorem run_1 (w : World) (os : OsState) : segRunT treeTable PySem.Challenge.pw_rw0123_02 w 11 annT 1 10 (S_0 w os) ⟨(execs [stN 1] envT).wrap doneF deadEnd id id, cT, q_0, fB⟩ = some (.next, S_1 w os, cT, q_1) := by
  rw [PySem.W.Fast.te10110043849684766642, PySem.W.Fast.te14364793385576792824, PySem.W.Fast.te12563942051412417395]
  kernel_rfl
theorem run_2 (w : World) (os : OsState) : segRunT treeTable PySem.Challenge.pw_rw0123_02 w 11 annT 1 999 (S_1 w os) ⟨(execs [stN 2] envT).wrap doneF deadEnd id id, cT, q_1, fB⟩ = some (.next, S_2 w os, cT, q_2) := by
  rw [PySem.W.Fast.te10110043849684766642, PySem.W.Fast.te14364793385576792824, PySem.W.Fast.te12563942051412417395]
  refine byRow2 "special-get-raises" (P := fun w => ∀ os : OsState, PySem.W.Fast.tw10110043849684766642 PySem.W.Fast.tw14364793385576792824 PySem.Challenge.pw_rw0123_02 w 11 annT 1 999 (S_1 w os) ⟨(PySem.W.Fast.tw12563942051412417395 [stN 2] envT).wrap doneF deadEnd id id, cT, q_1, fB⟩ = some (.next, S_2 w os, cT, q_2)) ?_ ?_ w os
  · intro w os
    kernel_rfl
  · intro w os
    kernel_rfl
theorem run_3 (w : World) (os : OsState) : segRunT treeTable PySem.Challenge.pw_rw0123_02 w 11 annT 1 30 (S_2 w os) ⟨(execs [stN 3] envT).wrap doneF deadEnd id id, cT, q_2, fB⟩ = some (.next, S_3 w os, cT, q_3) := by
  rw [PySem.W.Fast.te10110043849684766642, PySem.W.Fast.te14364793385576792824, PySem.W.Fast.te12563942051412417395]
  kernel_rfl
theorem run_5 (w : World) (os : OsState) : segRunT treeTable PySem.Challenge.pw_rw0123_02 w 11 annT 1 31 (S_4 w os) ⟨(execs [stN 5] envT).wrap doneF deadEnd id id, cT, q_4, fB⟩ = some (.next, S_5 w os, cT, q_5) := by
  rw [PySem.W.Fast.te10110043849684766642, PySem.W.Fast.te14364793385576792824, PySem.W.Fast.te12563942051412417395]
  kernel_rfl
theorem run_6 (w : World) (os : OsState) : segRunT treeTable PySem.Challenge.pw_rw0123_02 w 11 annT 1 10 (S_5 w os) ⟨(execs [stN 6] envT).wrap doneF deadEnd id id, cT, q_5, fB⟩ = some (.next, S_6 w os, cT, q_6) := by
  rw [PySem.W.Fast.te10110043849684766642, PySem.W.Fast.te14364793385576792824, PySem.W.Fast.te12563942051412417395]
  kernel_rfl
theorem run_7 (w : World) (os : OsState) : segRunT treeTable PySem.Challenge.pw_rw0123_02 w 11 annT 1 42 (S_6 w os) ⟨(execs [stN 7] envT).wrap doneF deadEnd id id, cT, q_6, fB⟩ = some (.next, S_7 w os, cT, q_7) := by
  rw [PySem.W.Fast.te10110043849684766642, PySem.W.Fast.te14364793385576792824, PySem.W.Fast.te12563942051412417395]
  kernel_rfl
theorem run_8 (w : World) (os : OsState) : segRunT treeTable PySem.Challenge.pw_rw0123_02 w 11 annT 1 42 (S_7 w os) ⟨(execs [stN 8] envT).wrap doneF deadEnd id id, cT, q_7, fB⟩ = some (.next, S_8 w os, cT, q_8) := by
  rw [PySem.W.Fast.te10110043849684766642, PySem.W.Fast.te14364793385576792824, PySem.W.Fast.te12563942051412417395]
  kernel_rfl
theorem run_9 (w : World) (os : OsState) : segRunT treeTable PySem.Challenge.pw_rw0123_02 w 11 annT 1 10 (S_8 w os) ⟨(execs [stN 9] envT).wrap doneF deadEnd id id, cT, q_8, fB⟩ = some (.next, S_9 w os, cT, q_9) := by
  rw [PySem.W.Fast.te10110043849684766642, PySem.W.Fast.te14364793385576792824, PySem.W.Fast.te12563942051412417395]
  kernel_rfl
theorem run_10 (w : World) (os : OsState) : segRunT treeTable PySem.Challenge.pw_rw0123_02 w 11 annT 1 491 (S_9 w os) ⟨(execs [stN 10] envT).wrap doneF deadEnd id id, cT, q_9, fB⟩ = some (.next, S_10 w os, cT, q_10) := by
  rw [PySem.W.Fast.te10110043849684766642, PySem.W.Fast.te14364793385576792824, PySem.W.Fast.te12563942051412417395]
  refine byRow2 "special-get-raises" (P := fun w => ∀ os : OsState, PySem.W.Fast.tw10110043849684766642 PySem.W.Fast.tw14364793385576792824 PySem.Challenge.pw_rw0123_02 w 11 annT 1 491 (S_9 w os) ⟨(PySem.W.Fast.tw12563942051412417395 [stN 10] envT).wrap doneF deadEnd id id, cT, q_9, fB⟩ = some (.next, S_10 w os, cT, q_10)) ?_ ?_ w os
  · intro w os
    kernel_rfl
  · intro w os
    kernel_rfl
theorem run_11 (w : World) (os : OsState) : segRunT treeTable PySem.Challenge.pw_rw0123_02 w 11 annT 1 10 (S_10 w os) ⟨(execs [stN 11] envT).wrap doneF deadEnd id id, cT, q_10, fB⟩ = some (.next, S_11 w os, cT, q_11) := by
  rw [PySem.W.Fast.te10110043849684766642, PySem.W.Fast.te14364793385576792824, PySem.W.Fast.te12563942051412417395]
  kernel_rfl
theorem run_12 (w : World) (os : OsState) : segRunT treeTable PySem.Challenge.pw_rw0123_02 w 11 annT 1 39 (S_11 w os) ⟨(execs [stN 12] envT).wrap doneF deadEnd id id, cT, q_11, fB⟩ = some (.next, S_12 w os, cT, q_12) := by
  rw [PySem.W.Fast.te10110043849684766642, PySem.W.Fast.te14364793385576792824, PySem.W.Fast.te12563942051412417395]
  kernel_rfl
theorem run_13 (w : World) (os : OsState) : segRunT treeTable PySem.Challenge.pw_rw0123_02 w 11 annT 1 32 (S_12 w os) ⟨(execs [stN 13] envT).wrap doneF deadEnd id id, cT, q_12, fB⟩ = some (.next, S_13 w os, cT, q_13) := by
  rw [PySem.W.Fast.te10110043849684766642, PySem.W.Fast.te14364793385576792824, PySem.W.Fast.te12563942051412417395]
  kernel_rfl
theorem run_14 (w : World) (os : OsState) : segRunT treeTable PySem.Challenge.pw_rw0123_02 w 11 annT 1 34 (S_13 w os) ⟨(execs [stN 14] envT).wrap doneF deadEnd id id, cT, q_13, fB⟩ = some (.next, S_14 w os, cT, q_14) := by
  rw [PySem.W.Fast.te10110043849684766642, PySem.W.Fast.te14364793385576792824, PySem.W.Fast.te12563942051412417395]
  kernel_rfl
theorem run_15 (w : World) (os : OsState) : segRunT treeTable PySem.Challenge.pw_rw0123_02 w 11 annT 1 34 (S_14 w os) ⟨(execs [stN 15] envT).wrap doneF deadEnd id id, cT, q_14, fB⟩ = some (.next, S_15 w os, cT, q_15) := by
  rw [PySem.W.Fast.te10110043849684766642, PySem.W.Fast.te14364793385576792824, PySem.W.Fast.te12563942051412417395]
  kernel_rfl
theorem run_16 (w : World) (os : OsState) : segRunT treeTable PySem.Challenge.pw_rw0123_02 w 11 annT 1 27 (S_15 w os) ⟨(execs [stN 16] envT).wrap doneF deadEnd id id, cT, q_15, fB⟩ = some (.next, S_16 w os, cT, q_16) := by
  rw [PySem.W.Fast.te10110043849684766642, PySem.W.Fast.te14364793385576792824, PySem.W.Fast.te12563942051412417395]
  kernel_rfl
theorem run_b (w : World) (os : OsState) : segRunT treeTable PySem.Challenge.pw_rw0123_02 w 11 annT 1 1 (S_a w os) (blockOf bd envT cT q_a fB) = some (.next, S_b w os, cT, q_b) := by
  rw [PySem.W.Fast.te10110043849684766642, PySem.W.Fast.te14364793385576792824]
  kernel_rfl
theorem kvs_len : kvsT.length = 650 := by kernel_rfl
theorem ch0_len : (chT 0).length = 17 := by kernel_rfl
theorem r_len : rT.length = 4 := by kernel_rfl
theorem cs_all : csT.all (fun c => c.length == 17) = true := by kernel_rfl
theorem cs_len (c : List (Int × Str)) (h : c ∈ csT) : c.length = 17 := beq_iff_eq.mp (List.all_eq_true.mp cs_all c h)
theorem cs_n : csT.length = 37 := by kernel_rfl
theorem kvs_eq : chT 0 ++ csT.flatten ++ rT = kvsT := chunks_first kvsT 37
theorem kvs_rise : rises (kvsT.map fun kv => hashInt kv.1) = true := by kernel_rfl
theorem all_pairs : allPairs (dKeys (stN 4)) (dVals (stN 4)) = true := by kernel_rfl
theorem disp_ok (P : Params) : dispOk (T_3 P) 40 263 (chT 0) csT rT = true := by kernel_rfl
theorem disp_T (P : Params) : dispT (T_3 P) 40 263 (chT 0) csT rT = T_d P := by kernel_rfl
theorem st_dict : stN 4 = .Assign (dTg (stN 4)) (.Dict (dKeys (stN 4)) (dVals (stN 4)) (dPd (stN 4))) (dPos (stN 4)) := by kernel_rfl
theorem swaps_dict : swapsWithSole (dTg (stN 4)) (.Dict (dKeys (stN 4)) (dVals (stN 4)) (dPd (stN 4))) (dPos (stN 4)).line envT = pure false := by kernel_rfl
theorem run_t (w : World) (os : OsState) : segRunT treeTable PySem.Challenge.pw_rw0123_02 w 11 annT 1 8 (S_d w os) ⟨(tailOf (dTg (stN 4)) (.Dict (dKeys (stN 4)) (dVals (stN 4)) (dPd (stN 4))) envT (.ref 40)).wrap doneF deadEnd id id, cT, dPd (stN 4), fB⟩ = some (.next, S_4 w os, cT, q_4) := by
  kernel_rfl
theorem abs_d (w : World) (os : OsState) : ({ (S_3 w os).abs with heap := dispH (S_3 w os).abs.heap (S_3 w os).abs.toks (chT 0) csT rT, toks := (S_3 w os).abs.toks + 3 * (chT 0).length + 3 * csT.flatten.length + 3 * rT.length } : Shared) = (S_d w os).abs := by
  have h1 : dispH (S_3 w os).abs.heap (S_3 w os).abs.toks (chT 0) csT rT = (S_d w os).abs.heap := by
    have := disp_abs (t := T_3 w.params) (n := 40) (T := 263) (c₀ := chT 0) (r := rT) (cs := csT) (life := lifeT w) ch0_len cs_len (disp_ok w.params)
    rw [disp_T, cs_n] at this
    exact this
  have h2 : (S_3 w os).abs.toks + 3 * (chT 0).length + 3 * csT.flatten.length + 3 * rT.length = 2213 := by
    rw [ch0_len, flat17 csT cs_len, cs_n, r_len]; rfl
  rw [h1, h2]
  rfl
theorem run_dict (w : World) (os : OsState) (N : Nat) (z : Shared) (rest : List Stmt) (k : topRun treeTable PySem.Challenge.pw_rw0123_02 w 11 annT N (S_4 w os).abs (restOf rest envT cT q_4 fB) = some z) :
    topRun treeTable PySem.Challenge.pw_rw0123_02 w 11 annT (12517 + (8 + N)) (S_3 w os).abs (restOf (stN 4 :: rest) envT cT q_3 fB) = some z := by
  have hz := zip_pairs (env := envT) (pd := dPd (stN 4)) (dKeys (stN 4)) (dVals (stN 4)) all_pairs
  have hs := segRun_of (run_t w os)
  have hsz : (S_3 w os).abs.heap.objs.size = 40 := by show (absHeap _ _ _).objs.size = _; rw [absHeap_size]; rfl
  rw [← abs_d w os] at hs
  have r := dict_piece (prog := PySem.Challenge.pw_rw0123_02) (w := w) (n₀ := 11) (ann := annT) (s := (S_3 w os).abs) (c₀ := chT 0) (r := rT) (cs := csT) (n₂ := 8) (N := N) (rest := rest) (c := cT) (p := q_3) (q := ⟨0, 0, 0, 0⟩) (z := z) (pos := dPos (stN 4))
    swaps_dict (by rw [kvs_eq]; exact hz) ch0_len cs_len (by rw [r_len]; decide) (by intro e; have := r_len; rw [e] at this; cases this) (by rw [hsz]; decide) (by rw [hsz]; decide)
    (by rw [kvs_eq]; exact rises_nodup kvs_rise) (by rw [kvs_eq, kvs_len]; decide) (by rw [hsz]; exact hs) k
  rw [cs_n, r_len] at r
  rw [st_dict]
  exact r
theorem bd_eq : bd = [stN 0, stN 1, stN 2, stN 3, stN 4, stN 5, stN 6, stN 7, stN 8, stN 9, stN 10, stN 11, stN 12, stN 13, stN 14, stN 15, stN 16] := by kernel_rfl
theorem run_f (w : World) (os : OsState) : topRun treeTable PySem.Challenge.pw_rw0123_02 w 11 annT 2 (S_16 w os).abs ⟨doneF .next, cT, q_16, fB⟩ = some (S_f w os).abs := by
  rw [PySem.W.Fast.te14082659384304107361, PySem.W.Fast.te14364793385576792824]
  kernel_rfl
theorem run_all (w : World) (os : OsState) : topRun treeTable PySem.Challenge.pw_rw0123_02 w 11 annT (12 + (1 + (30 + (10 + (999 + (30 + (12517 + (8 + (31 + (10 + (42 + (42 + (10 + (491 + (10 + (39 + (32 + (34 + (34 + (27 + 2)))))))))))))))))))) ⟨boot_heap w.params, Array.mk [], boot_drawn, boot_toks, os⟩ (topStub PySem.Challenge.pw_rw0123_02) = some (S_f w os).abs :=
  go_top (run_a w os) (piece_block (segRun_of (run_b w os)) (by rw [bd_eq]; exact piece_app (l := [stN 0]) (segRun_of (run_0 w os)) (piece_app (l := [stN 1]) (segRun_of (run_1 w os)) (piece_app (l := [stN 2]) (segRun_of (run_2 w os)) (piece_app (l := [stN 3]) (segRun_of (run_3 w os)) (run_dict w os _ _ _ (piece_app (l := [stN 5]) (segRun_of (run_5 w os)) (piece_app (l := [stN 6]) (segRun_of (run_6 w os)) (piece_app (l := [stN 7]) (segRun_of (run_7 w os)) (piece_app (l := [stN 8]) (segRun_of (run_8 w os)) (piece_app (l := [stN 9]) (segRun_of (run_9 w os)) (piece_app (l := [stN 10]) (segRun_of (run_10 w os)) (piece_app (l := [stN 11]) (segRun_of (run_11 w os)) (piece_app (l := [stN 12]) (segRun_of (run_12 w os)) (piece_app (l := [stN 13]) (segRun_of (run_13 w os)) (piece_app (l := [stN 14]) (segRun_of (run_14 w os)) (piece_app (l := [stN 15]) (segRun_of (run_15 w os)) (piece_app (l := [stN 16]) (segRun_of (run_16 w os)) (piece_nil (run_f w os))))))))))))))))))))
end Mine
end
end
section
open PySem PySem.W
set_option Elab.async false
set_option linter.unusedVariables false
set_option maxRecDepth 100000
set_option maxHeartbeats 0
noncomputable section
namespace Mine
noncomputable abbrev pwT := PySem.Challenge.pw_rw0123_02
noncomputable def addrsT : List Nat := 2 :: 3 :: 4 :: List.range' 15 188
noncomputable def YfT (s : Shared) : List (Option Obj) := addrsT.map s.heap.get?
noncomputable def YaT (w : World) : List (Option Obj) := addrsT.map (T_f w.params).get
noncomputable def qT : Program := view pwT [16]
noncomputable def looseT : List Str := ["_wall", "bisect_right", "bisect_left", "b1_set", "in_table_b1", "b3_exceptions", "map_table_b3", "Whitespace", "_law_drawn", "_law_rows", "_law_changed", "_law_put_in"]
theorem open_T : ∀ w : World, (fencedOpening treeTable pwT w 20000).map (fun s => (s.heap, s.gens, s.drawn, s.toks)) = some (boot_heap w.params, Array.mk [], boot_drawn, boot_toks) :=
  boot_open (by kernel_rfl) (by kernel_rfl) (by intro s; kernel_rfl)
theorem size_T (w : World) : ((boot_heap w.params).isNs mainGlobals && (Array.mk [] : Array GenState).size == 0, (boot_heap w.params).objs.size, (boot_heap w.params).nsMap mainGlobals "__annotations__") = (true, 11, annT) := by kernel_rfl
theorem look1 (w : World) (os : OsState) : (staticsOk (importedModules pwT.main.body) (boot_heap w.params) (S_f w os).abs.heap && namesBound pwT (S_f w os).abs.heap && gensDone (S_f w os).abs && laidKept (boot_heap w.params) (S_f w os).abs.heap) = true := by kernel_rfl
theorem look2 (w : World) (os : OsState) : openSeen qT looseT (importedModules pwT.main.body) (fun s => recOk [] s) true (S_f w os).abs = openGood qT looseT := by kernel_rfl
theorem look3 (w : World) (os : OsState) : YfT (S_f w os).abs = YaT w := by kernel_rfl
end Mine
end
end
section
open PySem PySem.W
set_option Elab.async false
set_option linter.unusedVariables false
set_option maxRecDepth 100000
set_option maxHeartbeats 0
noncomputable section
namespace Mine
theorem left_T : LeftO pwT qT looseT (fun s => recOk [] s) YfT YaT 20000 true :=
  LeftO.of_pieces (H₀ := boot_heap) (H₁ := fun P => absHeap (T_f P) 203 (boot_heap P).life) (gs₀ := Array.mk []) (gs₁ := Array.mk []) (d₀ := boot_drawn) (d₁ := boot_drawn) (k₀ := boot_toks) (k₁ := 2407) (m₀ := 11) (ann := annT)
    open_T size_T run_all (by decide) fun w => by
      funext os
      exact Prod.ext (look1 w os) (Prod.ext (look2 w os) (look3 w os))
noncomputable def YPT (w : World) (h : Heap) : Prop := ∀ a ∈ addrsT, ∀ o, (T_f w.params).get a = some o → h.get? a = some o
theorem YPT_of (w : World) (s : Shared) (h : YfT s = YaT w) : YPT w s.heap := by
  intro a ha o ho
  have := List.map_inj_left.mp h a ha
  rw [this, ho]
theorem YPT_keeps (w : World) (h h' : Heap) (y : YPT w h) (k : ∀ b o, h.get? b = some o → h'.get? b = some o) : YPT w h' := fun a ha o ho => k _ _ (y a ha o ho)
end Mine
end
end
section
open PySem PySem.W PyProof.Rows
set_option Elab.async false
set_option linter.unusedVariables false
namespace Mine
noncomputable def tblA : Addr := 199
noncomputable def tblC : Addr := 201
noncomputable def tblQ : Str := "law.<locals>.<lambda>"
end Mine
end
section
open PySem PySem.W PyProof.Rows
set_option Elab.async false
set_option linter.unusedVariables false
namespace Mine
inductive Dat where
  | none | bool (b : Bool) | int (i : Int) | str (x : Str) | list (xs : List Dat) | tup (xs : List Dat) | val (v : Value)
noncomputable def PlainTup (h : Heap) (a : Addr) (items : Array Value) : Prop := h.get? a = some { cls := .type "tuple", data := .seq items 0 }
inductive Rd (X : Addr → Prop) (h : Heap) : Value → Dat → Prop where
  | none : Rd X h .none .none
  | bool (b) : Rd X h (.bool b) (.bool b)
  | int (i t) : Rd X h (.int i t) (.int i)
  | str (x t) : Rd X h (.str x t) (.str x)
  | list (a : Addr) (vs : List Value) (ds : List Dat) (hx : ¬ X a) (hl : h.PlainList a vs.toArray) (hn : vs.length = ds.length) (hr : ∀ (i : Nat) v d, vs[i]? = some v → ds[i]? = some d → Rd X h v d) : Rd X h (.ref a) (.list ds)
  | tup (a : Addr) (vs : List Value) (ds : List Dat) (hx : ¬ X a) (hl : PlainTup h a vs.toArray) (hn : vs.length = ds.length) (hr : ∀ (i : Nat) v d, vs[i]? = some v → ds[i]? = some d → Rd X h v d) : Rd X h (.ref a) (.tup ds)
  | val (v : Value) : Rd X h v (.val v)
noncomputable def Solid0 (o : Obj) : Prop := ¬ (o.cls = .none ∧ ∃ vs, o.data = .fields vs)
noncomputable def Solid (b : Addr) (o : Obj) : Prop := b ≠ tblA ∨ Solid0 o
noncomputable def Sg (h : Heap) (b : Addr) (o : Obj) : Prop := h.get? b = some o ∧ Solid b o
theorem solid_cls {b : Addr} {o : Obj} {T : String} (h : o.cls = .type T) : Solid b o := .inr (fun ⟨e, _⟩ => by rw [h] at e; cases e)
theorem solid_seq {b : Addr} {o : Obj} {items : Array Value} {n : Nat} (h : o.data = .seq items n) : Solid b o := .inr (fun ⟨_, _, e⟩ => by rw [h] at e; cases e)
theorem solid_dict {b : Addr} {o : Obj} {items : Array DictEntry} {n : Nat} (h : o.data = .dict items n) : Solid b o := .inr (fun ⟨_, _, e⟩ => by rw [h] at e; cases e)
theorem solid_cell {b : Addr} {o : Obj} {v : Option Value} (h : o.data = .cell v) : Solid b o := .inr (fun ⟨_, _, e⟩ => by rw [h] at e; cases e)
theorem solid_func {b : Addr} {o : Obj} {v : FuncData} (h : o.data = .func v) : Solid b o := .inr (fun ⟨_, _, e⟩ => by rw [h] at e; cases e)
theorem Sg.ne {h : Heap} {b : Addr} {o : Obj} {ps : Array Value} (e : Sg h b o) (t : h.get? tblA = some (tabObj ps)) : b ≠ tblA := by
  rcases e.2 with q | q
  · exact q
  · rintro rfl
    have e1 := e.1
    rw [t] at e1; cases e1
    exact q ⟨rfl, _, rfl⟩
structure TabAt (h : Heap) (ps : Array Value) : Prop where
  get : h.get? tblA = some (tabObj ps)
  ok : TriplesOk ps.toList
  code : ∀ pos cv, codeAmong pos ps.toList = some cv → ∃ c o vs t, cv = .ref c ∧ Sg h c o ∧ o.data = .fields vs ∧ vs[1]? = some (.str tblQ t)
noncomputable def Tab (h : Heap) : Prop := ∃ ps, TabAt h ps
structure Ext (h h' : Heap) : Prop where
  kept : ∀ b o, Sg h b o → Sg h' b o
  tab : ∀ ps, TabAt h ps → ∃ more, TabAt h' (ps ++ more)
theorem Ext.refl (h : Heap) : Ext h h := ⟨fun _ _ e => e, fun ps t => ⟨#[], by rw [Array.append_empty]; exact t⟩⟩
theorem Ext.trans {a b c : Heap} (x : Ext a b) (y : Ext b c) : Ext a c := ⟨fun _ _ e => y.kept _ _ (x.kept _ _ e), fun ps t => by
  obtain ⟨m, t⟩ := x.tab ps t
  obtain ⟨m', t⟩ := y.tab _ t
  exact ⟨m ++ m', by rw [← Array.append_assoc]; exact t⟩⟩
theorem Ext.of {h h' : Heap} (k : ∀ b o, h.get? b = some o → h'.get? b = some o) : Ext h h' := ⟨fun b o e => ⟨k b o e.1, e.2⟩, fun ps t => ⟨#[], by
  rw [Array.append_empty]
  exact ⟨k _ _ t.get, t.ok, fun pos cv e => by obtain ⟨c, o, vs, u, e1, e2, e3⟩ := t.code pos cv e; exact ⟨c, o, vs, u, e1, ⟨k _ _ e2.1, e2.2⟩, e3⟩⟩⟩⟩
theorem Ext.tabBut {h h' : Heap} {a : Addr} {o : Obj} (ho : h.get? a = some o) (hs : Solid a o) (hd : ∀ vs, o.data ≠ .fields vs) (k : ∀ b o, b ≠ a → h.get? b = some o → h'.get? b = some o) : ∀ ps, TabAt h ps → ∃ more, TabAt h' (ps ++ more) := fun ps t => ⟨#[], by
  rw [Array.append_empty]
  refine ⟨k _ _ (fun e => ?_) t.get, t.ok, fun pos cv e => ?_⟩
  · rw [← e, t.get] at ho; cases ho; exact hd _ rfl
  · obtain ⟨c, o', vs, u, e1, ⟨e2, e5⟩, e3, e4⟩ := t.code pos cv e
    exact ⟨c, o', vs, u, e1, ⟨k _ _ (fun q => by rw [q, ho] at e2; cases e2; exact hd _ e3) e2, e5⟩, e3, e4⟩⟩
theorem Tab.ext {h h' : Heap} (t : Tab h) (k : Ext h h') : Tab h' := let ⟨ps, t⟩ := t; let ⟨m, t⟩ := k.tab ps t; ⟨_, t⟩
theorem Ext.get {h h' : Heap} (k : Ext h h') {b : Addr} {o : Obj} (e : h.get? b = some o) (hs : Solid b o) : h'.get? b = some o := (k.kept b o ⟨e, hs⟩).1
noncomputable def SeqExt (X : Addr → Prop) (h h' : Heap) : Prop := ∀ b o, ¬ X b → h.get? b = some o → (∃ items n, o.data = .seq items n) → h'.get? b = some o
theorem Ext.seq {X : Addr → Prop} {a b : Heap} (x : Ext a b) : SeqExt X a b := fun _ _ _ e ⟨_, _, d⟩ => x.get e (solid_seq d)
theorem SeqExt.trans {X : Addr → Prop} {a b c : Heap} (x : SeqExt X a b) (y : SeqExt X b c) : SeqExt X a c := fun _ _ q e s => y _ _ q (x _ _ q e s) s
theorem SeqExt.weak {X Y : Addr → Prop} {a b : Heap} (x : SeqExt X a b) (q : ∀ b, X b → Y b) : SeqExt Y a b := fun _ _ n e s => x _ _ (fun z => n (q _ z)) e s
theorem Rd.mono {X : Addr → Prop} {h h' : Heap} (k : SeqExt X h h') {v : Value} {d : Dat} (r : Rd X h v d) : Rd X h' v d := by
  induction r with
  | none => exact .none
  | bool b => exact .bool b
  | int i t => exact .int i t
  | str x t => exact .str x t
  | list a vs ds hx hl hn hr ih =>
    obtain ⟨n, e⟩ := hl
    exact .list a vs ds hx ⟨n, k _ _ hx e ⟨_, _, rfl⟩⟩ hn ih
  | tup a vs ds hx hl hn hr ih => exact .tup a vs ds hx (k _ _ hx hl ⟨_, _, rfl⟩) hn ih
  | val v => exact .val v
theorem Rd.ext {X : Addr → Prop} {h h' : Heap} (k : Ext h h') {v : Value} {d : Dat} (r : Rd X h v d) : Rd X h' v d := r.mono k.seq
theorem Rd.weak {X Y : Addr → Prop} {h : Heap} (q : ∀ b, Y b → X b) {v : Value} {d : Dat} (r : Rd X h v d) : Rd Y h v d := by
  induction r with
  | none => exact .none
  | bool b => exact .bool b
  | int i t => exact .int i t
  | str x t => exact .str x t
  | list a vs ds hx hl hn hr ih => exact .list a vs ds (fun z => hx (q _ z)) hl hn ih
  | tup a vs ds hx hl hn hr ih => exact .tup a vs ds (fun z => hx (q _ z)) hl hn ih
  | val v => exact .val v
theorem Rd.away {X Y : Addr → Prop} {h : Heap} (q : ∀ b, Y b → X b ∨ ∀ o, ¬ Sg h b o) {v : Value} {d : Dat} (r : Rd X h v d) : Rd Y h v d := by
  induction r with
  | none => exact .none
  | bool b => exact .bool b
  | int i t => exact .int i t
  | str x t => exact .str x t
  | list a vs ds hx hl hn hr ih =>
    refine .list a vs ds (fun z => ?_) hl hn ih
    rcases q _ z with z | z
    · exact hx z
    · obtain ⟨n, e⟩ := hl; exact z _ ⟨e, solid_cls rfl⟩
  | tup a vs ds hx hl hn hr ih =>
    refine .tup a vs ds (fun z => ?_) hl hn ih
    rcases q _ z with z | z
    · exact hx z
    · exact z _ ⟨hl, solid_cls rfl⟩
  | val v => exact .val v
structure Live (X : Addr → Prop) (h : Heap) : Prop where
  live : ∀ b, X b → ∃ o, Sg h b o
  tab : Tab h
theorem Live.ext {X : Addr → Prop} {h h' : Heap} (x : Live X h) (k : Ext h h') : Live X h' := ⟨fun b z => let ⟨o, e⟩ := x.live b z; ⟨o, k.kept _ _ e⟩, x.tab.ext k⟩
theorem Live.new {X : Addr → Prop} {h : Heap} (x : Live X h) : ¬ X h.objs.size := fun z => by
  obtain ⟨o, e, _⟩ := x.live _ z
  exact absurd (Heap.lt_size e) (Nat.lt_irrefl _)
noncomputable abbrev Ø : Addr → Prop := fun _ => False
structure At (X : Addr → Prop) (h h' : Heap) : Prop where
  ext : Ext h h'
  live : Live X h'
theorem At.go {X : Addr → Prop} {h h' h'' : Heap} (x : At X h h') (k : Ext h' h'') : At X h h'' := ⟨x.ext.trans k, x.live.ext k⟩
theorem At.sub {X : Addr → Prop} {h₀ h h' : Heap} (x : At X h h') (k : Ext h₀ h) : At X h₀ h' := ⟨k.trans x.ext, x.live⟩
theorem At.here {X : Addr → Prop} {h : Heap} (l : Live X h) : At X h h := ⟨Ext.refl h, l⟩
theorem Live.none {h : Heap} (t : Tab h) : Live Ø h := ⟨fun _ z => z.elim, t⟩
noncomputable def Dat.flat : Dat → Prop
  | .list _ => False
  | .tup _ => False
  | _ => True
theorem Rd.flat {X Y : Addr → Prop} {h h' : Heap} {v : Value} {d : Dat} (f : d.flat) (r : Rd X h v d) : Rd Y h' v d := by
  cases r with
  | none => exact .none
  | bool b => exact .bool b
  | int i t => exact .int i t
  | str x t => exact .str x t
  | list => exact f.elim
  | tup => exact f.elim
  | val v => exact .val v
noncomputable def Kp (s s' : Shared) : Prop := ∃ h' tk, s' = { s with heap := h', toks := tk } ∧ Ext s.heap h'
theorem Kp.refl (s : Shared) : Kp s s := ⟨s.heap, s.toks, rfl, Ext.refl _⟩
theorem Kp.trans {a b c : Shared} (x : Kp a b) (y : Kp b c) : Kp a c := by
  obtain ⟨h, t, rfl, k⟩ := x
  obtain ⟨h', t', rfl, k'⟩ := y
  exact ⟨h', t', rfl, k.trans k'⟩
theorem Kp.ext {a b : Shared} (x : Kp a b) : Ext a.heap b.heap := by
  obtain ⟨h, t, rfl, k⟩ := x
  exact k
theorem Kp.toks (s : Shared) (n : Nat) : Kp s { s with toks := n } := ⟨s.heap, n, rfl, Ext.refl _⟩
theorem Kp.heap {s : Shared} {h' : Heap} (k : ∀ b o, s.heap.get? b = some o → h'.get? b = some o) (n : Nat) : Kp s { s with heap := h', toks := n } := ⟨h', n, rfl, .of k⟩
theorem nsExt {h h' : Heap} {a : Addr} {m : Str → Option Value} (n : h.Ns a m) (k : Ext h h') : h'.Ns a m := let ⟨o, es, ep, e, d, r⟩ := n; ⟨o, es, ep, k.get e (solid_dict d), d, r⟩
theorem plainExt {h h' : Heap} {a : Addr} {xs : Array Value} (n : h.PlainList a xs) (k : Ext h h') : h'.PlainList a xs := let ⟨n, e⟩ := n; ⟨n, k.get e (solid_cls rfl)⟩
section
variable {prog : Program} {w : World} {A : Around} {env : Env} {X : Addr → Prop} {h : Heap}
noncomputable def Gv (prog : Program) (w : World) (A : Around) (X : Addr → Prop) (h : Heap) (t : Sem Value) (d : Dat) : Prop :=
  ∀ (s : Shared) (E : Value → Shared → Prop), At X h s.heap → wpAny (model prog w) A t (fun v s' => Rd X s'.heap v d ∧ Kp s s') E s
noncomputable def EV (prog : Program) (w : World) (A : Around) (env : Env) (X : Addr → Prop) (h : Heap) (e : Expr) (d : Dat) : Prop := Gv prog w A X h (eval e env) d
theorem Gv.at {t : Sem Value} {d : Dat} {s s₀ : Shared} {Q : Value → Shared → Prop} {E : Value → Shared → Prop} (x : Gv prog w A X h t d) (k : At X h s₀.heap) (ks : Kp s₀ s)
    (hQ : ∀ v s', Rd X s'.heap v d → Kp s₀ s' → Kp s s' → Q v s') : wpAny (model prog w) A t Q E s :=
  wpAny_mono (x s E (k.go ks.ext)) (fun v s' q => hQ v s' q.1 (ks.trans q.2) q.2) fun _ _ e => e
theorem Gv.now {t : Sem Value} {d : Dat} {s : Shared} {Q : Value → Shared → Prop} {E : Value → Shared → Prop} (x : Gv prog w A X h t d) (k : At X h s.heap)
    (hQ : ∀ v s', Rd X s'.heap v d → Kp s s' → Q v s') : wpAny (model prog w) A t Q E s :=
  wpAny_mono (x s E k) (fun v s' q => hQ v s' q.1 q.2) fun _ _ e => e
theorem Gv.mono {h' : Heap} {t : Sem Value} {d : Dat} (x : Gv prog w A X h t d) (k : Ext h h') : Gv prog w A X h' t d := fun s E k' => x s E (k'.sub k)
theorem EV.mono {h' : Heap} {e : Expr} {d : Dat} (x : EV prog w A env X h e d) (k : Ext h h') : EV prog w A env X h' e d := Gv.mono x k
theorem EV.cast {e : Expr} {d d' : Dat} (x : EV prog w A env X h e d) (q : d = d') : EV prog w A env X h e d' := q ▸ x
noncomputable def TV (prog : Program) (w : World) (A : Around) (env : Env) (X : Addr → Prop) (h : Heap) (e : Expr) (b : Bool) : Prop :=
  ∀ (s : Shared) (E : Value → Shared → Prop), At X h s.heap → wpAny (model prog w) A (isTrue e env (eval e env)) (fun c s' => c = b ∧ Kp s s') E s
theorem TV.cast {e : Expr} {d d' : Bool} (x : TV prog w A env X h e d) (q : d = d') : TV prog w A env X h e d' := q ▸ x
theorem TV.now {e : Expr} {b : Bool} {s : Shared} {Q : Bool → Shared → Prop} {E : Value → Shared → Prop} (x : TV prog w A env X h e b) (k : At X h s.heap)
    (hQ : ∀ s', Kp s s' → Q b s') : wpAny (model prog w) A (isTrue e env (eval e env)) Q E s :=
  wpAny_mono (x s E k) (fun c s' q => by obtain ⟨rfl, q⟩ := q; exact hQ s' q) fun _ _ e => e
theorem EV.int {i : Int} {k : Nat} {pos : Pos} : EV prog w A env X h (.Constant (.int i) k pos) (.int i) := fun s E _ => wpAny_Constant_int ⟨.int _ _, Kp.toks s _⟩
theorem EV.str {x : Str} {k : Nat} {pos : Pos} : EV prog w A env X h (.Constant (.str x) k pos) (.str x) := fun s E _ => wpAny_Constant_str ⟨.str _ _, Kp.toks s _⟩
theorem EV.none {k : Nat} {pos : Pos} : EV prog w A env X h (.Constant .none k pos) .none := fun s E _ => wpAny_Constant_none ⟨.none, Kp.refl s⟩
theorem EV.bool {b : Bool} {k : Nat} {pos : Pos} : EV prog w A env X h (.Constant (.bool b) k pos) (.bool b) := fun s E _ => wpAny_Constant_bool ⟨.bool _, Kp.refl s⟩
noncomputable def Var (env : Env) (h : Heap) (x : Str) (v : Value) : Prop :=
  (env.kindOf x = some .local ∧ ∃ m, h.Ns env.locals m ∧ m x = some v) ∨ ((env.kindOf x = some .cell ∨ env.kindOf x = some .free) ∧ ∃ c, env.cells.lookup x = some c ∧ h.IsCell c (some v))
theorem IsCell.ext {h h' : Heap} (k : Ext h h') {c : Addr} {v : Option Value} (x : h.IsCell c v) : h'.IsCell c v := let ⟨o, e, d⟩ := x; ⟨o, k.get e (solid_cell d), d⟩
theorem Var.ext {h' : Heap} {x : Str} {v : Value} (q : Var env h x v) (k : Ext h h') : Var env h' x v := by
  rcases q with ⟨a, m, n, e⟩ | ⟨a, c, n, e⟩
  · exact .inl ⟨a, m, nsExt n k, e⟩
  · exact .inr ⟨a, c, n, IsCell.ext k e⟩
theorem Gv.var {x : Str} {v : Value} {d : Dat} (hk : env.scope.kind = .function) (q : Var env h x v) (r : Rd X h v d) (hd : (x == ("__classdict__" : Str)) = false) : Gv prog w A X h (loadName env x) d := fun s E k => by
  have r' : Rd X s.heap v d := r.ext k.ext
  rcases q.ext k.ext with ⟨a, m, n, e⟩ | ⟨a, c, n, e⟩
  · exact wpAny_loadName_local hk a n e ⟨r', Kp.refl s⟩
  · rcases a with a | a
    · exact wpAny_loadName_cell hk a n e ⟨r', Kp.refl s⟩
    · exact wpAny_loadName_free hk a n e ⟨r', Kp.refl s⟩ hd
theorem EV.var {x : Str} {pos : Pos} {v : Value} {d : Dat} (hk : env.scope.kind = .function) (q : Var env h x v) (r : Rd X h v d) (hd : (x == ("__debug__" : Str) || x == ("__classdict__" : Str)) = false) : EV prog w A env X h (.Name x pos) d := fun s E k => by
  obtain ⟨h1, h2⟩ := Bool.or_eq_false_iff.mp hd
  exact wpAny_Name (Gv.var hk q r h2 s E k) h1
noncomputable def Bin (prog : Program) (w : World) (A : Around) (X : Addr → Prop) (op : Operator) (a b d : Dat) : Prop :=
  ∀ (s : Shared) (E : Value → Shared → Prop) (v u : Value), Live X s.heap → Rd X s.heap v a → Rd X s.heap u b → wpAny (model prog w) A (binaryOp op v u) (fun r s' => Rd X s'.heap r d ∧ Kp s s') E s
theorem EV.bin {l r : Expr} {op : Operator} {pos : Pos} {a b d : Dat} (hl : EV prog w A env X h l a) (hr : EV prog w A env X h r b) (ho : Bin prog w A X op a b d) : EV prog w A env X h (.BinOp l op r pos) d := fun s E k =>
  wpAny_BinOp (hl.now k fun v s₁ r₁ k₁ => Gv.at hr k k₁ fun u s₂ r₂ k₀ k₂ => wpAny_mono (ho s₂ E v u (k.live.ext k₀.ext) (r₁.ext k₂.ext) r₂) (fun r s' q => ⟨q.1, k₀.trans q.2⟩) fun _ _ e => e)
theorem Bin.addI {a b : Int} : Bin prog w A X .Add (.int a) (.int b) (.int (a + b)) := by
  intro s E v u hX r₁ r₂; cases r₁; cases r₂; exact add_int ⟨.int _ _, Kp.toks s _⟩
theorem Bin.subI {a b : Int} : Bin prog w A X .Sub (.int a) (.int b) (.int (a - b)) := by
  intro s E v u hX r₁ r₂; cases r₁; cases r₂; exact sub_int ⟨.int _ _, Kp.toks s _⟩
theorem Bin.modI {a b : Int} (hb : b ≠ 0) : Bin prog w A X .Mod (.int a) (.int b) (.int (a.fmod b)) := by
  intro s E v u hX r₁ r₂; cases r₁; cases r₂; exact mod_int hb ⟨.int _ _, Kp.toks s _⟩
theorem Bin.divI {a b : Int} (hb : b ≠ 0) (hp : Builtin.divisionGoesByPylong a b = false) : Bin prog w A X .FloorDiv (.int a) (.int b) (.int (a.fdiv b)) := by
  intro s E v u hX r₁ r₂; cases r₁; cases r₂; exact floordiv_int hb ⟨.int _ _, Kp.toks s _⟩ (.inl hp)
theorem Bin.mulI {a b : Int} (hm : IntMulOk a b) : Bin prog w A X .Mult (.int a) (.int b) (.int (a * b)) := by
  intro s E v u hX r₁ r₂; cases r₁; cases r₂; exact mul_int ⟨.int _ _, Kp.toks s _⟩ hm
end
end Mine
end
section
open PySem PySem.W PyProof.Rows
set_option Elab.async false
set_option linter.unusedVariables false
namespace Mine
section
variable {prog : Program} {w : World} {A : Around} {env : Env} {X : Addr → Prop} {h : Heap}
structure Rm (A : Around) (n : Nat) : Prop where
  handled : A.handled = none
  depth : A.depth + n < recursionLimit
  units : A.units + 5 * n + 400 < cLine
theorem Rm.le {n k : Nat} (x : Rm A n) (q : k ≤ n) : Rm A k := ⟨x.handled, by have := x.depth; omega, by have := x.units; omega⟩
theorem Rm.deeper {n : Nat} (x : Rm A (n + 1)) (e : Env) : Rm (A.deeper e) n := ⟨x.handled, by have := x.depth; simp only [Around.deeper]; omega, by have := x.units; simp only [Around.deeper]; omega⟩
theorem EV.glob {x : Str} {pos : Pos} {v : Value} {mg : Str → Option Value} (hk : env.scope.kind = .function) (hx : env.kindOf x = some .globalImplicit) (hg : h.Ns env.globals mg) (hv : mg x = some v)
    (hd : (x == ("__debug__" : Str)) = false) : EV prog w A env X h (.Name x pos) (.val v) := fun s E k =>
  wpAny_Name (ks_loadName_global hk hx (Calls.loadGlobal_global (nsExt hg k.ext) hv ⟨.val v, Kp.refl s⟩)) hd
theorem EV.blt {x : Str} {pos : Pos} {v : Value} {mg mb : Str → Option Value} (hk : env.scope.kind = .function) (hx : env.kindOf x = some .globalImplicit) (hg : h.Ns env.globals mg) (hm : mg x = Option.none)
    (hb : h.Ns env.builtins mb) (hv : mb x = some v) (hd : (x == ("__debug__" : Str)) = false) : EV prog w A env X h (.Name x pos) (.val v) := fun s E k =>
  wpAny_Name (ks_loadName_global hk hx (Calls.loadGlobal_builtin (nsExt hg k.ext) hm (nsExt hb k.ext) hv ⟨.val v, Kp.refl s⟩)) hd
theorem TV.of_value {e : Expr} {b : Bool} (x : EV prog w A env X h e (.bool b))
    (he : ∀ whole, isTrue e env whole = (do let v ← whole; standAt e.pos; holding [v] (truthy v))) : TV prog w A env X h e b := fun s E k =>
  wpAny_isTrue_value (x.now k fun v s' r k' => by cases r; exact wpAny_truthy_bool ⟨rfl, k'⟩) (he _)
theorem TV.not {x : Expr} {pos : Pos} {b : Bool} (q : TV prog w A env X h x b) : TV prog w A env X h (.UnaryOp .Not x pos) (!b) := fun s E k =>
  wpAny_isTrue_Not (q.now k fun s' k' => ⟨rfl, k'⟩)
noncomputable def AllT (prog : Program) (w : World) (A : Around) (env : Env) (X : Addr → Prop) (h : Heap) (op : BoolOp) (es : List Expr) (b : Bool) : Prop :=
  ∀ (s : Shared) (E : Value → Shared → Prop), At X h s.heap → wpAny (model prog w) A (allTrue op es env) (fun c s' => c = b ∧ Kp s s') E s
theorem AllT.and_nil : AllT prog w A env X h .And [] true := fun s E k => wpAny_allTrue_And_nil ⟨rfl, Kp.refl s⟩
theorem AllT.or_nil : AllT prog w A env X h .Or [] false := fun s E k => wpAny_allTrue_Or_nil ⟨rfl, Kp.refl s⟩
theorem AllT.and_cons {e : Expr} {es : List Expr} {b c : Bool} (x : TV prog w A env X h e b) (y : b = true → AllT prog w A env X h .And es c) : AllT prog w A env X h .And (e :: es) (b && c) := fun s E k =>
  wpAny_allTrue_And_cons (x.now k fun s' k' => by
    cases b
    · exact ⟨rfl, k'⟩
    · exact wpAny_mono (y rfl s' E (k.go k'.ext)) (fun d s'' q => ⟨by rw [q.1, Bool.true_and], k'.trans q.2⟩) fun _ _ e => e)
theorem AllT.or_cons {e : Expr} {es : List Expr} {b c : Bool} (x : TV prog w A env X h e b) (y : b = false → AllT prog w A env X h .Or es c) : AllT prog w A env X h .Or (e :: es) (b || c) := fun s E k =>
  wpAny_allTrue_Or_cons (x.now k fun s' k' => by
    cases b
    · exact wpAny_mono (y rfl s' E (k.go k'.ext)) (fun d s'' q => ⟨by rw [q.1, Bool.false_or], k'.trans q.2⟩) fun _ _ e => e
    · exact ⟨rfl, k'⟩)
theorem TV.bop {op : BoolOp} {es : List Expr} {pos : Pos} {b : Bool} (x : AllT prog w A env X h op es b) : TV prog w A env X h (.BoolOp op es pos) b := fun s E k => wpAny_isTrue_BoolOp (x s E k)
noncomputable def Cmp (prog : Program) (w : World) (A : Around) (X : Addr → Prop) (op : CmpOp) (a b : Dat) (c : Bool) : Prop :=
  ∀ (s : Shared) (E : Value → Shared → Prop) (v u : Value), Live X s.heap → Rd X s.heap v a → Rd X s.heap u b → wpAny (model prog w) A (compareOp op v u) (fun r s' => r = .bool c ∧ Kp s s') E s
theorem TV.cmp {l r : Expr} {op : CmpOp} {pos : Pos} {a b : Dat} {c : Bool} (hl : EV prog w A env X h l a) (hr : EV prog w A env X h r b) (ho : Cmp prog w A X op a b c) (hm : behindInMarks op r = false) : TV prog w A env X h (.Compare l [op] [r] pos) c := fun s E k =>
  wpAny_isTrue_Compare1 (hl.now k fun v s₁ r₁ k₁ => Gv.at hr k k₁ fun u s₂ r₂ k₀ k₂ => wpAny_mono (ho s₂ E v u (k.live.ext k₀.ext) (r₁.ext k₂.ext) r₂) (fun r s' q => by obtain ⟨rfl, q⟩ := q; exact wpAny_truthy_bool ⟨rfl, k₀.trans q⟩) fun _ _ e => e) hm
theorem EV.cmp {l r : Expr} {op : CmpOp} {pos : Pos} {a b : Dat} {c : Bool} (hl : EV prog w A env X h l a) (hr : EV prog w A env X h r b) (ho : Cmp prog w A X op a b c) (hm : behindInMarks op r = false) : EV prog w A env X h (.Compare l [op] [r] pos) (.bool c) := fun s E k =>
  wpAny_Compare1 (hl.now k fun v s₁ r₁ k₁ => Gv.at hr k k₁ fun u s₂ r₂ k₀ k₂ => wpAny_mono (ho s₂ E v u (k.live.ext k₀.ext) (r₁.ext k₂.ext) r₂) (fun r s' q => by obtain ⟨rfl, q⟩ := q; exact ⟨.bool _, k₀.trans q⟩) fun _ _ e => e) hm
theorem Cmp.ltI {a b : Int} : Cmp prog w A X .Lt (.int a) (.int b) (decide (a < b)) := by intro s E v u hX r₁ r₂; cases r₁; cases r₂; exact lt_int ⟨rfl, Kp.refl s⟩
theorem Cmp.leI {a b : Int} : Cmp prog w A X .LtE (.int a) (.int b) (decide (a ≤ b)) := by intro s E v u hX r₁ r₂; cases r₁; cases r₂; exact le_int ⟨rfl, Kp.refl s⟩
theorem Cmp.gtI {a b : Int} : Cmp prog w A X .Gt (.int a) (.int b) (decide (b < a)) := by intro s E v u hX r₁ r₂; cases r₁; cases r₂; exact gt_int ⟨rfl, Kp.refl s⟩
theorem Cmp.geI {a b : Int} : Cmp prog w A X .GtE (.int a) (.int b) (decide (b ≤ a)) := by intro s E v u hX r₁ r₂; cases r₁; cases r₂; exact ge_int ⟨rfl, Kp.refl s⟩
theorem Cmp.eqI {a b : Int} : Cmp prog w A X .Eq (.int a) (.int b) (decide (a = b)) := by
  intro s E v u hX r₁ r₂; cases r₁; cases r₂; exact eq_int ⟨by rw [Bool.beq_eq_decide_eq], Kp.refl s⟩
theorem Cmp.neI {a b : Int} : Cmp prog w A X .NotEq (.int a) (.int b) (decide (a ≠ b)) := by
  intro s E v u hX r₁ r₂; cases r₁; cases r₂; exact ne_int ⟨by simp only [bne, Bool.beq_eq_decide_eq, ne_eq, decide_not], Kp.refl s⟩
theorem cps_eq (x y : Str) : (x.cps.toList == y.cps.toList) = decide (x = y) := by
  rw [Bool.eq_iff_iff]
  simp only [beq_iff_eq, decide_eq_true_eq]
  constructor
  · intro q; cases x; cases y; simp only [Str.mk.injEq] at *; exact Array.toList_inj.mp q
  · rintro rfl; rfl
theorem Cmp.eqS {a b : Str} : Cmp prog w A X .Eq (.str a) (.str b) (decide (a = b)) := by
  intro s E v u hX r₁ r₂; cases r₁; cases r₂; exact eq_str ⟨by congr 1, Kp.refl s⟩
theorem Cmp.neS {a b : Str} : Cmp prog w A X .NotEq (.str a) (.str b) (decide (a ≠ b)) := by
  intro s E v u hX r₁ r₂; cases r₁; cases r₂; exact ne_str ⟨by congr 1; rw [Bool.eq_iff_iff]; simp, Kp.refl s⟩
theorem Cmp.isNone {v : Value} : Cmp prog w A X .Is (.val v) .none (v == .none) := by
  intro s E v u hX r₁ r₂; cases r₁; cases r₂; exact is_none ⟨rfl, Kp.refl s⟩
theorem EV.ite {t b o : Expr} {pos : Pos} {c : Bool} {d : Dat} (x : TV prog w A env X h t c) (y : c = true → EV prog w A env X h b d) (z : c = false → EV prog w A env X h o d) : EV prog w A env X h (.IfExp t b o pos) d := fun s E k =>
  wpAny_IfExp (x.now k fun s' k' => by
    cases c
    · exact Gv.at (z rfl) k k' fun v s'' r k₀ _ => ⟨r, k₀⟩
    · exact Gv.at (y rfl) k k' fun v s'' r k₀ _ => ⟨r, k₀⟩)
end
end Mine
end
section
open PySem PySem.W PyProof.Rows
set_option Elab.async false
set_option linter.unusedVariables false
namespace Mine
noncomputable def RdL (X : Addr → Prop) (h : Heap) (vs : List Value) (ds : List Dat) : Prop := vs.length = ds.length ∧ ∀ (i : Nat) v d, vs[i]? = some v → ds[i]? = some d → Rd X h v d
theorem RdL.nil {X : Addr → Prop} {h : Heap} : RdL X h [] [] := ⟨rfl, fun i v d e => by simp at e⟩
theorem RdL.cons {X : Addr → Prop} {h : Heap} {v : Value} {vs : List Value} {d : Dat} {ds : List Dat} (x : Rd X h v d) (y : RdL X h vs ds) : RdL X h (v :: vs) (d :: ds) := by
  refine ⟨by simp only [List.length_cons, y.1], fun i u e hu he => ?_⟩
  cases i with
  | zero => simp only [List.getElem?_cons_zero, Option.some.injEq] at hu he; subst hu he; exact x
  | succ i => simp only [List.getElem?_cons_succ] at hu he; exact y.2 i u e hu he
theorem RdL.cons_inv {X : Addr → Prop} {h : Heap} {v : Value} {vs : List Value} {ds : List Dat} (x : RdL X h (v :: vs) ds) : ∃ d ds', ds = d :: ds' ∧ Rd X h v d ∧ RdL X h vs ds' := by
  cases ds with
  | nil => exact absurd x.1 (by simp)
  | cons d ds => exact ⟨d, ds, rfl, x.2 0 v d rfl rfl, by have := x.1; simpa using this, fun i u e hu he => x.2 (i + 1) u e hu he⟩
theorem RdL.mono {X : Addr → Prop} {h h' : Heap} (k : SeqExt X h h') {vs : List Value} {ds : List Dat} (x : RdL X h vs ds) : RdL X h' vs ds := ⟨x.1, fun i v d a b => (x.2 i v d a b).mono k⟩
theorem RdL.ext {X : Addr → Prop} {h h' : Heap} (k : Ext h h') {vs : List Value} {ds : List Dat} (x : RdL X h vs ds) : RdL X h' vs ds := x.mono k.seq
theorem RdL.append {X : Addr → Prop} {h : Heap} {vs us : List Value} {ds es : List Dat} (x : RdL X h vs ds) (y : RdL X h us es) : RdL X h (vs ++ us) (ds ++ es) := by
  induction vs generalizing ds with
  | nil => have := x.1; cases ds with | nil => exact y | cons _ _ => simp at this
  | cons v vs ih =>
    obtain ⟨d, ds, rfl, a, b⟩ := x.cons_inv
    exact .cons a (ih b)
theorem RdL.get {X : Addr → Prop} {h : Heap} {vs : List Value} {ds : List Dat} (x : RdL X h vs ds) {i : Nat} {d : Dat} (e : ds[i]? = some d) : ∃ v, vs[i]? = some v ∧ Rd X h v d := by
  obtain ⟨hi, _⟩ := List.getElem?_eq_some_iff.mp e
  have hv : i < vs.length := x.1 ▸ hi
  exact ⟨vs[i], List.getElem?_eq_getElem hv, x.2 i _ d (List.getElem?_eq_getElem hv) e⟩
theorem RdL.pick {X : Addr → Prop} {h : Heap} {vs : List Value} {ds : List Dat} (x : RdL X h vs ds) : ∀ l : List Nat, RdL X h (l.filterMap (vs[·]?)) (l.filterMap (ds[·]?))
  | [] => .nil
  | i :: l => by
    have ih := RdL.pick x l
    simp only [List.filterMap_cons]
    cases e : ds[i]? with
    | none =>
      have : vs[i]? = none := by rw [List.getElem?_eq_none_iff] at e ⊢; rw [x.1]; exact e
      rw [this]; exact ih
    | some d => obtain ⟨v, ev, r⟩ := x.get e; rw [ev]; exact .cons r ih
theorem Rd.list_inv {X : Addr → Prop} {h : Heap} {v : Value} {ds : List Dat} (r : Rd X h v (.list ds)) : ∃ a vs, v = .ref a ∧ ¬ X a ∧ h.PlainList a vs.toArray ∧ RdL X h vs ds := by
  cases r with | list a vs ds hx hl hn hr => exact ⟨a, vs, rfl, hx, hl, hn, hr⟩
theorem Rd.tup_inv {X : Addr → Prop} {h : Heap} {v : Value} {ds : List Dat} (r : Rd X h v (.tup ds)) : ∃ a vs, v = .ref a ∧ ¬ X a ∧ PlainTup h a vs.toArray ∧ RdL X h vs ds := by
  cases r with | tup a vs ds hx hl hn hr => exact ⟨a, vs, rfl, hx, hl, hn, hr⟩
theorem Rd.ofList {X : Addr → Prop} {h : Heap} {a : Addr} {vs : List Value} {ds : List Dat} (hx : ¬ X a) (hl : h.PlainList a vs.toArray) (x : RdL X h vs ds) : Rd X h (.ref a) (.list ds) := .list a vs ds hx hl x.1 x.2
theorem Rd.ofTup {X : Addr → Prop} {h : Heap} {a : Addr} {vs : List Value} {ds : List Dat} (hx : ¬ X a) (hl : PlainTup h a vs.toArray) (x : RdL X h vs ds) : Rd X h (.ref a) (.tup ds) := .tup a vs ds hx hl x.1 x.2
theorem Ext.push (h : Heap) (o : Obj) : Ext h (h.push o) := .of fun _ _ e => Heap.get?_push_of_some _ e
section
variable {prog : Program} {w : World} {A : Around} {env : Env} {X : Addr → Prop} {h : Heap}
noncomputable def EVs (prog : Program) (w : World) (A : Around) (env : Env) (X : Addr → Prop) (h : Heap) (es : List Expr) (ds : List Dat) : Prop :=
  ∀ (pos : Pos) (s : Shared) (E : Value → Shared → Prop), At X h s.heap → wpAny (model prog w) A (spliced (backTo pos (starEach es env))) (fun vs s' => RdL X s'.heap vs ds ∧ Kp s s') E s
theorem EVs.nil : EVs prog w A env X h [] [] := fun pos s E k => spliced_none ⟨.nil, Kp.refl s⟩
theorem EVs.cons {e : Expr} {es : List Expr} {d : Dat} {ds : List Dat} (x : EV prog w A env X h e d) (y : EVs prog w A env X h es ds) (he : starEach (e :: es) env = (false, eval e env) :: starEach es env) : EVs prog w A env X h (e :: es) (d :: ds) := fun pos s E k =>
  spliced_more (x.now k fun v s₁ r₁ k₁ => wpAny_mono (y pos s₁ E (k.go k₁.ext)) (fun vs s₂ q => ⟨.cons (r₁.ext q.2.ext) q.1, k₁.trans q.2⟩) fun _ _ e => e) he
theorem EVs.mono {h' : Heap} {es : List Expr} {ds : List Dat} (x : EVs prog w A env X h es ds) (k : Ext h h') : EVs prog w A env X h' es ds := fun p s E k' => x p s E (k'.sub k)
theorem newList_Rd {s : Shared} {vs : List Value} {ds : List Dat} (hX : Live X s.heap) (x : RdL X s.heap vs ds) : Rd X (s.heap.push { cls := .type "list", data := .seq vs.toArray }) (.ref s.heap.objs.size) (.list ds) :=
  .ofList hX.new ⟨0, Heap.get?_push_size _ rfl⟩ (x.ext (Ext.push _ _))
theorem newTup_Rd {s : Shared} {vs : List Value} {ds : List Dat} (hX : Live X s.heap) (x : RdL X s.heap vs ds) : Rd X (s.heap.push { cls := .type "tuple", data := .seq vs.toArray }) (.ref s.heap.objs.size) (.tup ds) :=
  .ofTup hX.new (Heap.get?_push_size _ rfl) (x.ext (Ext.push _ _))
theorem Kp.push (s : Shared) (o : Obj) : Kp s { s with heap := s.heap.push o } := ⟨_, _, rfl, Ext.push _ _⟩
theorem EV.list {es : List Expr} {ds : List Dat} {pos : Pos} (x : EVs prog w A env X h es ds) (hn : ds.length ≤ sizeLine) : EV prog w A env X h (.List es pos) (.list ds) := fun s E k =>
  wpAny_List_spliced (wpAny_mono (x pos s E k) (fun vs s' q => ⟨by rw [q.1.1]; exact hn, newList_Rd (k.live.ext q.2.ext) q.1, q.2.trans (Kp.push _ _)⟩) fun _ _ e => e)
theorem EV.tup {es : List Expr} {ds : List Dat} {n : Nat} {pos : Pos} (x : EVs prog w A env X h es ds) (hn : ds.length ≤ sizeLine) : EV prog w A env X h (.Tuple es n pos) (.tup ds) := fun s E k =>
  wpAny_Tuple_spliced (wpAny_mono (x pos s E k) (fun vs s' q => ⟨by rw [q.1.1]; exact hn, newTup_Rd (k.live.ext q.2.ext) q.1, q.2.trans (Kp.push _ _)⟩) fun _ _ e => e)
theorem typeIs_list {s : Shared} {a : Addr} {items : Array Value} (hl : s.heap.PlainList a items) : s.TypeIs (.ref a) "list" := hl.isList.typeIs
theorem subscripted_ops (slice : Expr) (o i : Value) : ∃ ops, subscripted slice false o i = operate ops (getItem o i) := by
  unfold subscripted
  split
  · exact ⟨_, rfl⟩
  · rename_i heq; cases heq
  · exact ⟨_, rfl⟩
theorem seqIndex_pos {i : Int} {n : Nat} (h0 : 0 ≤ i) (hi : i < n) : seqIndex? i n = some i.toNat := by
  have h1 : ¬ i < 0 := by omega
  simp [seqIndex?, h1, h0, hi]
noncomputable def Itm (prog : Program) (w : World) (A : Around) (X : Addr → Prop) (a b d : Dat) : Prop :=
  ∀ (s : Shared) (E : Value → Shared → Prop) (v u : Value), Live X s.heap → Rd X s.heap v a → Rd X s.heap u b →
    (∃ T id, s.TypeIs v T ∧ typeLookup (.type T) "__getitem__" = pure (some (.builtin id))) ∧ wpAny (model prog w) A (getItem v u) (fun r s' => Rd X s'.heap r d ∧ Kp s s') E s
theorem EV.sub {value slice : Expr} {pos : Pos} {a b d : Dat} (x : EV prog w A env X h value a) (y : EV prog w A env X h slice b) (z : Itm prog w A X a b d) : EV prog w A env X h (.Subscript value slice pos) d := fun s E k =>
  Subscript_ (x.now k fun v s₁ r₁ k₁ => Gv.at y k k₁ fun u s₂ r₂ k₀ k₂ => by
    obtain ⟨⟨T, id, hT, hl⟩, hg⟩ := z s₂ E v u (k.live.ext k₀.ext) (r₁.ext k₂.ext) r₂
    obtain ⟨ops, ho⟩ := subscripted_ops slice v u
    exact tail_any hT hl (wpAny_mono hg (fun r s' q => ⟨q.1, k₀.trans q.2⟩) fun _ _ e => e) ho)
theorem Itm.list {ds : List Dat} {i : Int} {d : Dat} (h0 : 0 ≤ i) (hi : i < 2 ^ 63) (e : ds[i.toNat]? = some d) : Itm prog w A X (.list ds) (.int i) d := by
  intro s E v u hX r₁ r₂
  obtain ⟨a, vs, rfl, hx, hl, x⟩ := r₁.list_inv
  cases r₂
  obtain ⟨y, ey, ry⟩ := x.get e
  exact ⟨⟨"list", _, hl.isList.typeIs, slot_list_getitem.lookup⟩, wpAny_getItem_list hl.isList h0 hi (by simpa using ey) ⟨ry, Kp.refl s⟩⟩
theorem Itm.listNeg {ds : List Dat} {i : Int} {d : Dat} (h0 : i < 0) (h1 : -(ds.length : Int) ≤ i) (hi : -(2 ^ 63) ≤ i) (e : ds[(i + ds.length).toNat]? = some d) : Itm prog w A X (.list ds) (.int i) d := by
  intro s E v u hX r₁ r₂
  obtain ⟨a, vs, rfl, hx, hl, x⟩ := r₁.list_inv
  cases r₂
  obtain ⟨y, ey, ry⟩ := x.get e
  exact ⟨⟨"list", _, hl.isList.typeIs, slot_list_getitem.lookup⟩, wpAny_getItem_list_neg hl.isList h0 (by simp only [List.size_toArray, x.1]; exact h1) hi (by simp only [List.size_toArray, x.1]; simpa using ey) ⟨ry, Kp.refl s⟩⟩
theorem Itm.tup {ds : List Dat} {i : Int} {d : Dat} (h0 : 0 ≤ i) (hi : i < 2 ^ 63) (e : ds[i.toNat]? = some d) : Itm prog w A X (.tup ds) (.int i) d := by
  intro s E v u hX r₁ r₂
  obtain ⟨a, vs, rfl, hx, hl, x⟩ := r₁.tup_inv
  cases r₂
  obtain ⟨y, ey, ry⟩ := x.get e
  have ht : PyProof.Rows.IsTup s.heap a vs.toArray := ⟨_, hl, rfl, 0, rfl⟩
  have hlt : i.toNat < vs.length := (List.getElem?_eq_some_iff.mp ey).1
  refine ⟨⟨"tuple", _, ⟨_, hl, rfl⟩, PySem.F.slot_tuple_getitem.lookup⟩, PyProof.Rows.getItem_tuple (j := i.toNat) ht (Int.le_trans (by decide) h0) hi ?_ (by simpa using ey) ⟨ry, Kp.refl s⟩⟩
  have e1 : vs.toArray.size = vs.length := by simp
  rw [e1]
  exact seqIndex_pos h0 (by omega)
theorem Itm.str {x : Str} {i : Int} {c : Nat} (h0 : 0 ≤ i) (hi : i < 2 ^ 63) (e : x.cps.toList[i.toNat]? = some c) : Itm prog w A X (.str x) (.int i) (.str ⟨#[c]⟩) := by
  intro s E v u hX r₁ r₂
  cases r₁; cases r₂
  have hlt : i.toNat < x.cps.toList.length := (List.getElem?_eq_some_iff.mp e).1
  have hlt' : i.toNat < x.length := by simpa [Str.length] using hlt
  refine ⟨⟨"str", _, typeIs_str _ _ _, PySem.F.slot_str_getitem.lookup⟩, getItem_str (by simp; omega) ?_ ⟨.str _ _, Kp.toks s _⟩⟩
  rw [seqIndex_pos h0 (by omega)]
  simpa using e
noncomputable def picks (lo hi st : Option Int) (n : Nat) : List Nat := sliceRange (sliceBounds lo hi st n).1 (sliceBounds lo hi st n).2.1 (sliceBounds lo hi st n).2.2
noncomputable def pickL {α : Type} (lo hi st : Option Int) (xs : List α) : List α := (picks lo hi st xs.length).filterMap (xs[·]?)
noncomputable def PartV (prog : Program) (w : World) (A : Around) (env : Env) (X : Addr → Prop) (h : Heap) (e : Option Expr) (p : Option Int) : Prop :=
  ∀ (s : Shared) (E : Value → Shared → Prop), At X h s.heap → wpAny (model prog w) A (evalPart e env) (fun v s' => IsPart v p ∧ Kp s s') E s
theorem PartV.none : PartV prog w A env X h Option.none Option.none := fun s E k => wpAny_pure ⟨.none, Kp.refl s⟩
theorem PartV.some {e : Expr} {i : Int} (x : EV prog w A env X h e (.int i)) : PartV prog w A env X h (Option.some e) (Option.some i) := fun s E k =>
  x.now k fun v s' r k' => by cases r; exact ⟨.int _ _, k'⟩
theorem slice_list {value : Expr} {lower upper step : Option Expr} {p pos : Pos} {ds : List Dat} {lo hi st : Option Int} (x : EV prog w A env X h value (.list ds)) (a : PartV prog w A env X h lower lo)
    (b : PartV prog w A env X h upper hi) (c : PartV prog w A env X h step st) (h0 : st ≠ Option.some 0) (hn : ds.length ≤ sizeLine) : EV prog w A env X h (.Subscript value (.Slice lower upper step p) pos) (.list (pickL lo hi st ds)) := fun s E k =>
  Subscript_ (x.now k fun v s₁ r₁ k₁ => wpAny_Slice (wpAny_mono (a s₁ E (k.go k₁.ext)) (fun vl s₂ q₂ => wpAny_mono (b s₂ E ((k.go k₁.ext).go q₂.2.ext)) (fun vu s₃ q₃ =>
    wpAny_mono (c s₃ E (((k.go k₁.ext).go q₂.2.ext).go q₃.2.ext)) (fun vs s₄ q₄ => by
      obtain ⟨l, us, rfl, hx, hl, y⟩ := r₁.list_inv
      have kk : Kp s₁ s₄ := (q₂.2.trans q₃.2).trans q₄.2
      generalize hs5 : ({ s₄ with heap := s₄.heap.push { cls := .type "slice", data := .fields #[vl, vu, vs] } } : Shared) = s₅
      have k5 : Kp s₄ s₅ := hs5 ▸ Kp.push _ _
      have hl' : s₅.heap.PlainList l us.toArray := plainExt (plainExt hl kk.ext) k5.ext
      have y' : RdL X s₅.heap us ds := (y.ext kk.ext).ext k5.ext
      obtain ⟨ops, ho⟩ := subscripted_ops (.Slice lower upper step p) (.ref l) (.ref s₄.heap.objs.size)
      refine tail_any hl'.isList.typeIs slot_list_getitem.lookup (wpAny_getItem_list_slice hl'.isList (hs5 ▸ Heap.IsSliceOf.new _ _ _ _) q₂.1 q₃.1 q₄.1 h0 ⟨?_, ((k₁.trans kk).trans k5).trans (Kp.push _ _)⟩ (by simp only [List.size_toArray, y.1]; exact hn)) ho
      have e : slicePick us.toArray lo hi st = ((picks lo hi st ds.length).filterMap (us[·]?)).toArray := by
        unfold slicePick picks
        simp only [List.size_toArray, y.1, List.getElem?_toArray]
      rw [e]
      exact newList_Rd (k.live.ext ((k₁.trans kk).trans k5).ext) (y'.pick _)) fun _ _ e => e) fun _ _ e => e) fun _ _ e => e))
end
end Mine
end
section
open PySem PySem.W PyProof.Rows
set_option Elab.async false
set_option linter.unusedVariables false
namespace Mine
section
variable {prog : Program} {w : World} {A : Around} {env : Env} {X : Addr → Prop} {h : Heap}
theorem RdL.rep {X : Addr → Prop} {h : Heap} {vs : List Value} {ds : List Dat} (x : RdL X h vs ds) : ∀ n : Nat, RdL X h (List.replicate n vs).flatten (List.replicate n ds).flatten
  | 0 => .nil
  | n + 1 => by simp only [List.replicate_succ, List.flatten_cons]; exact x.append (RdL.rep x n)
theorem foldl_app (l : List (Array Value)) : ∀ acc : Array Value, (l.foldl (· ++ ·) acc).toList = acc.toList ++ (l.map Array.toList).flatten := by
  induction l with
  | nil => intro acc; simp
  | cons a l ih => intro acc; simp only [List.foldl_cons, ih, List.map_cons, List.flatten_cons, Array.toList_append, List.append_assoc]
theorem Bin.addS {x y : Str} (hs : x.length + y.length ≤ sizeLine) : Bin prog w A X .Add (.str x) (.str y) (.str (x ++ y)) := by
  intro s E v u hX r₁ r₂; cases r₁; cases r₂
  exact PySem.W.KOpn.add (by simpa [sizeLine] using hs) fun t' k _ => ⟨.str _ _, Kp.toks s _⟩
theorem Bin.addL {xs ys : List Dat} (hs : xs.length + ys.length ≤ sizeLine) : Bin prog w A X .Add (.list xs) (.list ys) (.list (xs ++ ys)) := by
  intro s E v u hX r₁ r₂
  obtain ⟨a, vs, rfl, hx, ⟨n, hl⟩, x⟩ := r₁.list_inv
  obtain ⟨b, us, rfl, hy, ⟨m, hb⟩, y⟩ := r₂.list_inv
  refine PySem.P.add_list hl hb ⟨?_, Kp.push _ _⟩ (by simp only [List.size_toArray, x.1, y.1]; exact hs)
  rw [List.append_toArray]
  exact newList_Rd hX (x.append y)
theorem Bin.mulL {xs : List Dat} {n : Int} (h0 : -(2 ^ 63 : Int) ≤ n) (h1 : n < 2 ^ 63) (hs : xs.length * n.toNat ≤ 2 ^ 24) : Bin prog w A X .Mult (.list xs) (.int n) (.list (List.replicate n.toNat xs).flatten) := by
  intro s E v u hX r₁ r₂
  obtain ⟨l, vs, rfl, hx, ⟨k, hl⟩, x⟩ := r₁.list_inv
  cases r₂
  rename_i t
  have hz : ¬Builtin.List.listTooLong (vs.toArray.size * n.toNat) = true := by
    have e : vs.toArray.size = xs.length := by simp [x.1]
    simp only [Builtin.List.listTooLong, sizeLine, e]; simp; omega
  refine wpAny_binaryOp_repeat_ref (T := "list") (U := "int") (by decide) ⟨_, hl, rfl⟩ (fun s' => typeIs_int s' n t) noFill_list_mul PySem.F.fills_int_mul PySem.F.slot_int_rmul repeat_list PySem.F.slot_int_index.lookup
    (call_meets PySem.F.slot_int_rmul (typeIs_int s n t) PySem.F.entry_int_rmul (PySem.F.args_int_rmul_2 _ _) (int___rmul___int_list n t l vs.toArray k)
      ⟨hl, rfl, ⟨_, hl, rfl⟩, call_meets PySem.F.slot_list_mul ⟨_, hl, rfl⟩ PySem.F.entry_list_mul (PySem.F.args_list_mul_2 _ _)
        (AutoListH.list___mul___list_int_3 l vs.toArray k n t (by simp [Builtin.List.listFitsIndex]; omega) (by have e : vs.toArray.size = xs.length := by { simp [x.1] }; rw [e]; omega) hz)
        ⟨hl, ?_, Kp.push _ _⟩⟩)
  have e : List.foldl (fun x1 x2 => x1 ++ x2) #[] (List.replicate (if vs.toArray.isEmpty = true then 0 else n.toNat) vs.toArray) = (List.replicate n.toNat vs).flatten.toArray := by
    apply Array.toList_inj.mp
    rw [foldl_app]
    cases vs with
    | nil => simp
    | cons v vs => simp
  rw [e]
  exact newList_Rd hX (x.rep _)
theorem Bin.powI {a b : Int} (h0 : 0 ≤ b) (hs : (Builtin.Int.intBits a : Int) * b ≤ 2 ^ 27) : Bin prog w A X .Pow (.int a) (.int b) (.int (a ^ b.toNat)) := by
  intro s E v u hX r₁ r₂; cases r₁; cases r₂; exact pow_int h0 hs ⟨.int _ _, Kp.toks s _⟩
theorem EV.neg {x : Expr} {pos : Pos} {a : Int} (q : EV prog w A env X h x (.int a)) : EV prog w A env X h (.UnaryOp .USub x pos) (.int (-a)) := fun s E k =>
  wpAny_UnaryOp (q.now k fun v s' r k' => by cases r; exact PySem.P.neg_int ⟨.int _ _, k'.trans (Kp.toks _ _)⟩)
end
mutual
noncomputable def Dat.py : Dat → PyData
  | .none => .none
  | .bool b => .bool b
  | .int i => .int i
  | .str x => .str x
  | .list xs => .list (pyAll xs)
  | .tup xs => .tuple (pyAll xs)
  | .val _ => .none
noncomputable def pyAll : List Dat → List PyData
  | [] => []
  | x :: xs => x.py :: pyAll xs
end
mutual
noncomputable def Dat.plain : Dat → Bool
  | .val _ => false
  | .str x => PyData.strOk x
  | .list xs => plainAll xs
  | .tup xs => plainAll xs
  | .none => true
  | .bool _ => true
  | .int _ => true
noncomputable def plainAll : List Dat → Bool
  | [] => true
  | x :: xs => x.plain && plainAll xs
end
theorem plainAll_mem : ∀ {xs : List Dat}, plainAll xs = true → ∀ x ∈ xs, x.plain = true
  | [], _, x, hx => nomatch hx
  | y :: ys, h, x, hx => by
    simp only [plainAll, Bool.and_eq_true] at h
    rcases List.mem_cons.mp hx with rfl | hx
    · exact h.1
    · exact plainAll_mem h.2 x hx
theorem plainAll_of : ∀ {xs : List Dat}, (∀ x ∈ xs, x.plain = true) → plainAll xs = true
  | [], _ => rfl
  | y :: ys, h => by
    simp only [plainAll, Bool.and_eq_true]
    exact ⟨h y (.head _), plainAll_of fun x hx => h x (.tail _ hx)⟩
mutual
theorem canLay_py : ∀ d : Dat, d.plain = true → d.py.canLay0 = true
  | .none, _ => by simp only [Dat.py, PyData.canLay0]
  | .bool _, _ => by simp only [Dat.py, PyData.canLay0]
  | .int _, _ => by simp only [Dat.py, PyData.canLay0]
  | .str x, h => by simpa only [Dat.py, PyData.canLay0, Dat.plain] using h
  | .list xs, h => by simp only [Dat.py, PyData.canLay0]; exact canLay_pyAll xs (by simpa only [Dat.plain] using h)
  | .tup xs, h => by simp only [Dat.py, PyData.canLay0]; exact canLay_pyAll xs (by simpa only [Dat.plain] using h)
  | .val _, h => by simp [Dat.plain] at h
theorem canLay_pyAll : ∀ xs : List Dat, plainAll xs = true → PyData.canLayAll0 (pyAll xs) = true
  | [], _ => by simp only [pyAll, PyData.canLayAll0]
  | x :: xs, h => by
    simp only [plainAll, Bool.and_eq_true] at h
    simp only [pyAll, PyData.canLayAll0, canLay_py x h.1, canLay_pyAll xs h.2, Bool.and_self]
end
theorem readsAll_of {h : Heap} : ∀ {vs : List Value} {ds : List Dat}, vs.length = ds.length → (∀ (i : Nat) v d, vs[i]? = some v → ds[i]? = some d → d.plain = true → ∃ as, Reads h v d.py as) → plainAll ds = true → ∃ as, ReadsAll h vs (pyAll ds) as
  | [], [], _, _, _ => ⟨[], .nil⟩
  | [], _ :: _, e, _, _ => by simp at e
  | _ :: _, [], e, _, _ => by simp at e
  | v :: vs, d :: ds, e, r, p => by
    simp only [plainAll, Bool.and_eq_true] at p
    obtain ⟨as, x⟩ := r 0 v d rfl rfl p.1
    obtain ⟨bs, y⟩ := readsAll_of (h := h) (vs := vs) (ds := ds) (by simpa using e) (fun i u c a b => r (i + 1) u c (by simpa using a) (by simpa using b)) p.2
    exact ⟨as ++ bs, .cons x y⟩
theorem Rd.reads {X : Addr → Prop} {h : Heap} {v : Value} {d : Dat} (r : Rd X h v d) : d.plain = true → ∃ as, Reads h v d.py as := by
  induction r with
  | none => exact fun _ => ⟨_, .none⟩
  | bool b => exact fun _ => ⟨_, .bool b⟩
  | int i t => exact fun _ => ⟨_, .int i t⟩
  | str x t => exact fun _ => ⟨_, .str x t⟩
  | list a vs ds hx hl hn hr ih =>
    intro p
    obtain ⟨n, e⟩ := hl
    obtain ⟨as, q⟩ := readsAll_of hn (fun i v d x y pd => ih i v d x y pd) (by simpa only [Dat.plain] using p)
    exact ⟨_, Reads.list e rfl rfl (by simpa using q)⟩
  | tup a vs ds hx hl hn hr ih =>
    intro p
    obtain ⟨as, q⟩ := readsAll_of hn (fun i v d x y pd => ih i v d x y pd) (by simpa only [Dat.plain] using p)
    exact ⟨_, Reads.tuple hl rfl rfl (by simpa using q)⟩
  | val v => exact fun p => by simp [Dat.plain] at p
structure Tp {α : Type} [DecidableEq α] (f : α → Dat) (P : α → Prop) (k : Nat) : Prop where
  plain : ∀ a, P a → (f a).plain = true
  depth : ∀ a, (f a).py.depth ≤ k
  eqv : ∀ a b, PyData.eqv (f a).py (f b).py = decide (a = b)
theorem Tp.int : Tp Dat.int (fun _ => True) 0 := ⟨fun _ _ => rfl, fun a => by simp [Dat.py, PyData.depth], fun a b => by simp only [Dat.py, PyData.eqv]; exact Bool.beq_eq_decide_eq a b⟩
theorem Tp.bool : Tp Dat.bool (fun _ => True) 0 := ⟨fun _ _ => rfl, fun a => by simp [Dat.py, PyData.depth], fun a b => by simp only [Dat.py, PyData.eqv]; exact Bool.beq_eq_decide_eq a b⟩
theorem Tp.str : Tp Dat.str (fun x => PyData.strOk x = true) 0 := ⟨fun _ h => h, fun a => by simp [Dat.py, PyData.depth], fun a b => by simp only [Dat.py, PyData.eqv]; rw [Bool.eq_iff_iff]; simp⟩
theorem eqvAll_map {α : Type} [DecidableEq α] {f : α → Dat} {P : α → Prop} {k : Nat} (T : Tp f P k) : ∀ xs ys : List α, PyData.eqvAll (pyAll (xs.map f)) (pyAll (ys.map f)) = decide (xs = ys)
  | [], [] => by simp [pyAll, PyData.eqvAll]
  | [], _ :: _ => by simp [pyAll, PyData.eqvAll]
  | _ :: _, [] => by simp [pyAll, PyData.eqvAll]
  | x :: xs, y :: ys => by simp only [List.map_cons, pyAll, PyData.eqvAll, T.eqv, eqvAll_map T xs ys]; simp
theorem depthAll_map {α : Type} [DecidableEq α] {f : α → Dat} {P : α → Prop} {k : Nat} (T : Tp f P k) : ∀ xs : List α, PyData.depthAll (pyAll (xs.map f)) ≤ k
  | [] => by simp [pyAll, PyData.depthAll]
  | x :: xs => by
    have := T.depth x
    have := depthAll_map T xs
    simp only [List.map_cons, pyAll, PyData.depthAll]; omega
theorem Tp.list {α : Type} [DecidableEq α] {f : α → Dat} {P : α → Prop} {k : Nat} (T : Tp f P k) : Tp (fun xs : List α => .list (xs.map f)) (fun xs => ∀ x ∈ xs, P x) (k + 1) where
  plain := fun xs h => by
    simp only [Dat.plain]
    exact plainAll_of fun d hd => by obtain ⟨x, hx, rfl⟩ := List.mem_map.mp hd; exact T.plain x (h x hx)
  depth := fun xs => by have := depthAll_map T xs; simp only [Dat.py, PyData.depth]; omega
  eqv := fun xs ys => by simp only [Dat.py, PyData.eqv]; exact eqvAll_map T xs ys
theorem Tp.tup {α : Type} [DecidableEq α] {f : α → Dat} {P : α → Prop} {k : Nat} (T : Tp f P k) : Tp (fun xs : List α => .tup (xs.map f)) (fun xs => ∀ x ∈ xs, P x) (k + 1) where
  plain := fun xs h => by
    simp only [Dat.plain]
    exact plainAll_of fun d hd => by obtain ⟨x, hx, rfl⟩ := List.mem_map.mp hd; exact T.plain x (h x hx)
  depth := fun xs => by have := depthAll_map T xs; simp only [Dat.py, PyData.depth]; omega
  eqv := fun xs ys => by simp only [Dat.py, PyData.eqv]; exact eqvAll_map T xs ys
section
variable {prog : Program} {w : World} {A : Around} {X : Addr → Prop}
theorem Cmp.eqT {α : Type} [DecidableEq α] {f : α → Dat} {P : α → Prop} {k : Nat} (T : Tp f P k) {a b : α} (ha : P a) (hb : P b) (hu : A.units + k < cLine) : Cmp prog w A X .Eq (f a) (f b) (decide (a = b)) := by
  intro s E v u hX r₁ r₂
  obtain ⟨as, x⟩ := r₁.reads (T.plain a ha)
  obtain ⟨bs, y⟩ := r₂.reads (T.plain b hb)
  exact PySem.SeqAt.compareEq_reads x y (canLay_py _ (T.plain a ha)) (canLay_py _ (T.plain b hb)) (by have := T.depth a; omega) ⟨by rw [T.eqv], Kp.refl s⟩
theorem Cmp.neT {α : Type} [DecidableEq α] {f : α → Dat} {P : α → Prop} {k : Nat} (T : Tp f P k) {a b : α} (ha : P a) (hb : P b) (hu : A.units + k < cLine) : Cmp prog w A X .NotEq (f a) (f b) (decide (a ≠ b)) := by
  intro s E v u hX r₁ r₂
  obtain ⟨as, x⟩ := r₁.reads (T.plain a ha)
  obtain ⟨bs, y⟩ := r₂.reads (T.plain b hb)
  exact PySem.SeqAt.compareNe_reads x y (canLay_py _ (T.plain a ha)) (canLay_py _ (T.plain b hb)) (by have := T.depth a; omega) ⟨by rw [T.eqv]; simp, Kp.refl s⟩
theorem Cmp.eqP {d e : Dat} {b : Bool} (ha : d.plain = true) (hb : e.plain = true) (hu : A.units + min d.py.depth e.py.depth < cLine) (h : PyData.eqv d.py e.py = b) : Cmp prog w A X .Eq d e b := by
  intro s E v u hX r₁ r₂
  obtain ⟨as, x⟩ := r₁.reads ha
  obtain ⟨bs, y⟩ := r₂.reads hb
  exact PySem.SeqAt.compareEq_reads x y (canLay_py _ ha) (canLay_py _ hb) hu ⟨by rw [h], Kp.refl s⟩
theorem Cmp.neP {d e : Dat} {b : Bool} (ha : d.plain = true) (hb : e.plain = true) (hu : A.units + min d.py.depth e.py.depth < cLine) (h : (!PyData.eqv d.py e.py) = b) : Cmp prog w A X .NotEq d e b := by
  intro s E v u hX r₁ r₂
  obtain ⟨as, x⟩ := r₁.reads ha
  obtain ⟨bs, y⟩ := r₂.reads hb
  exact PySem.SeqAt.compareNe_reads x y (canLay_py _ ha) (canLay_py _ hb) hu ⟨by rw [h], Kp.refl s⟩
end
end Mine
end
section
open PySem PySem.W PyProof.Rows
set_option Elab.async false
set_option linter.unusedVariables false
namespace Mine
structure EnvOk (env : Env) : Prop where
  kind : env.scope.kind = .function
  inj : ∀ x y c, env.cells.lookup x = some c → env.cells.lookup y = some c → x = y
  held : ∀ x c, env.cells.lookup x = some c → env.kindOf x = some .cell ∨ env.kindOf x = some .free
structure FS (env : Env) (h : Heap) (μ : Str → Option Value) : Prop where
  ns : ∃ m, h.Ns env.locals m ∧ ∀ x, env.kindOf x = some .local → m x = μ x
  cell : ∀ x c, (env.kindOf x = some .cell ∨ env.kindOf x = some .free) → env.cells.lookup x = some c → h.IsCell c (μ x)
theorem FS.ext {env : Env} {h h' : Heap} {μ : Str → Option Value} (F : FS env h μ) (k : Ext h h') : FS env h' μ := by
  obtain ⟨m, n, e⟩ := F.ns
  exact ⟨⟨m, nsExt n k, e⟩, fun x c a b => IsCell.ext k (F.cell x c a b)⟩
theorem FS.fresh {env : Env} {h : Heap} {μ : Str → Option Value} (O : EnvOk env) (F : FS env h μ) {I : Addr} (hI : ∀ o, ¬ Sg h I o) : I ≠ env.locals ∧ ∀ x, env.cells.lookup x ≠ some I := by
  refine ⟨?_, fun x e => ?_⟩
  · rintro rfl
    obtain ⟨m, ⟨o, _, _, e, d, _⟩, _⟩ := F.ns
    exact hI o ⟨e, solid_dict d⟩
  · obtain ⟨o, e', d⟩ := F.cell x I (O.held x I e) e
    exact hI o ⟨e', solid_cell d⟩
theorem Ns.not_cell {h : Heap} {a : Addr} {m : Str → Option Value} {v : Option Value} (n : h.Ns a m) (c : h.IsCell a v) : False := by
  obtain ⟨o, es, ep, e, d, _⟩ := n
  obtain ⟨o', e', d'⟩ := c
  rw [e] at e'; cases e'
  rw [d] at d'; cases d'
theorem seqExt_of_ns {X : Addr → Prop} {h h' : Heap} {a : Addr} {m : Str → Option Value} (n : h.Ns a m) (hs : Heap.SameBut a h h') : SeqExt X h h' := by
  intro b o _ e ⟨items, k, d⟩
  have : b ≠ a := by
    rintro rfl
    obtain ⟨o', es, ep, e', d', _⟩ := n
    rw [e] at e'; cases e'
    rw [d] at d'; cases d'
  exact (hs.2 b this).trans e
theorem seqExt_of_cell {X : Addr → Prop} {h h' : Heap} {a : Addr} {v : Option Value} (n : h.IsCell a v) (hs : Heap.SameBut a h h') : SeqExt X h h' := by
  intro b o _ e ⟨items, k, d⟩
  have : b ≠ a := by
    rintro rfl
    obtain ⟨o', e', d'⟩ := n
    rw [e] at e'; cases e'
    rw [d] at d'; cases d'
  exact (hs.2 b this).trans e
theorem tab_of_ns {h h' : Heap} {a : Addr} {m : Str → Option Value} (n : h.Ns a m) (hs : Heap.SameBut a h h') : ∀ ps, TabAt h ps → ∃ more, TabAt h' (ps ++ more) := by
  obtain ⟨o', es, ep, e', d', _⟩ := n
  exact Ext.tabBut e' (solid_dict d') (by rw [d']; nofun) fun b o hb e => (hs.2 b hb).trans e
theorem tab_of_cell {h h' : Heap} {a : Addr} {v : Option Value} (n : h.IsCell a v) (hs : Heap.SameBut a h h') : ∀ ps, TabAt h ps → ∃ more, TabAt h' (ps ++ more) := by
  obtain ⟨o', e', d'⟩ := n
  exact Ext.tabBut e' (solid_cell d') (by rw [d']; nofun) fun b o hb e => (hs.2 b hb).trans e
noncomputable def put (μ : Str → Option Value) (x : Str) (v : Value) : Str → Option Value := fun y => if y = x then some v else μ y
noncomputable def Own (env : Env) (b : Addr) : Prop := b = env.locals ∨ ∃ x, env.cells.lookup x = some b
noncomputable def Tgt (env : Env) (x : Str) (b : Addr) : Prop := (env.kindOf x = some .local ∧ b = env.locals) ∨ (env.kindOf x = some .cell ∧ env.cells.lookup x = some b)
theorem Tgt.own {env : Env} {x : Str} {b : Addr} (q : Tgt env x b) : Own env b := q.imp (·.2) fun z => ⟨x, z.2⟩
noncomputable def Sto (env : Env) (x : Str) : Prop := env.kindOf x = some .local ∨ (env.kindOf x = some .cell ∧ ∃ c, env.cells.lookup x = some c)
section
variable {prog : Program} {w : World} {A : Around} {env : Env} {X : Addr → Prop} {h : Heap} {s : Shared} {E : Value → Shared → Prop} {μ : Str → Option Value}
theorem store {x : Str} {v : Value} {Q : Unit → Shared → Prop} (O : EnvOk env) (F : FS env s.heap μ) (hx : Sto env x)
    (hQ : ∀ h' tk, FS env h' (put μ x v) → SeqExt Ø s.heap h' → (∀ b o, ¬ Tgt env x b → s.heap.get? b = some o → h'.get? b = some o) → (∀ ps, TabAt s.heap ps → ∃ more, TabAt h' (ps ++ more)) → Q () { s with heap := h', toks := tk }) :
    wpAny (model prog w) A (storeName env x v) Q E s := by
  obtain ⟨m, n, e⟩ := F.ns
  rcases hx with hx | ⟨hx, c, hc⟩
  · refine wpAny_storeName_local hx n (fun h' n' hs => hQ h' _ ⟨⟨_, n', fun y hy => ?_⟩, fun y c hy hc => ?_⟩ (seqExt_of_ns n hs) (fun b o hb q => (hs.2 b fun z => hb (.inl ⟨hx, z⟩)).trans q) (tab_of_ns n hs)) (by rw [O.kind]; rfl)
    · show (if y = x then some v else m y) = put μ x v y
      unfold put
      split
      · rfl
      · exact e y hy
    · have hyx : y ≠ x := by rintro rfl; rcases hy with hy | hy <;> (rw [hx] at hy; cases hy)
      have q := F.cell y c hy hc
      have : c ≠ env.locals := by rintro rfl; exact Ns.not_cell n q
      unfold put
      rw [if_neg hyx]
      exact q.sameBut hs this
  · have q := F.cell x c (.inl hx) hc
    have hL : env.locals ≠ c := by rintro z; exact Ns.not_cell (z ▸ n) q
    refine wpAny_storeName_cell O.kind hx hc q fun h' q' hs => hQ h' s.toks ⟨⟨m, n.sameBut hs hL, fun y hy => ?_⟩, fun y d hy hd => ?_⟩ (seqExt_of_cell q hs) (fun b o hb z => (hs.2 b fun y => hb (.inr ⟨hx, y ▸ hc⟩)).trans z) (tab_of_cell q hs)
    · have hyx : y ≠ x := by rintro rfl; rw [hx] at hy; cases hy
      unfold put
      rw [if_neg hyx]; exact e y hy
    · unfold put
      by_cases hyx : y = x
      · subst hyx
        rw [if_pos rfl]
        rw [hc] at hd; cases hd
        exact q'
      · rw [if_neg hyx]
        exact (F.cell y d hy hd).sameBut hs fun z => hyx (O.inj y x c (z ▸ hd) hc)
noncomputable def Knows (X : Addr → Prop) (h : Heap) (μ : Str → Option Value) (ρ : List (Str × Dat)) : Prop := ∀ p ∈ ρ, ∃ v, μ p.1 = some v ∧ Rd X h v p.2
theorem Knows.mono {h' : Heap} {ρ : List (Str × Dat)} (k : SeqExt X h h') (q : Knows X h μ ρ) : Knows X h' μ ρ := fun p hp => let ⟨v, a, b⟩ := q p hp; ⟨v, a, b.mono k⟩
noncomputable def drop (x : Str) (ρ : List (Str × Dat)) : List (Str × Dat) := ρ.filter fun p => !(p.1 == x)
theorem Knows.put {ρ : List (Str × Dat)} {x : Str} {v : Value} {d : Dat} (q : Knows X h μ ρ) (r : Rd X h v d) : Knows X h (put μ x v) ((x, d) :: drop x ρ) := by
  intro p hp
  rcases List.mem_cons.mp hp with rfl | hp
  · exact ⟨v, by unfold Mine.put; rw [if_pos rfl], r⟩
  · obtain ⟨h1, h2⟩ := List.mem_filter.mp hp
    obtain ⟨u, a, b⟩ := q p h1
    refine ⟨u, ?_, b⟩
    unfold Mine.put
    rw [if_neg (by simpa using h2)]; exact a
structure Loc (env : Env) (X : Addr → Prop) (h : Heap) (ρ : List (Str × Dat)) : Prop where
  st : ∃ μ, FS env h μ ∧ Knows X h μ ρ
theorem Loc.ext {h' : Heap} {ρ : List (Str × Dat)} (L : Loc env X h ρ) (k : Ext h h') : Loc env X h' ρ := let ⟨μ, F, K⟩ := L.st; ⟨μ, F.ext k, K.mono k.seq⟩
theorem Loc.sub {ρ ρ' : List (Str × Dat)} (L : Loc env X h ρ) (q : ∀ p ∈ ρ', p ∈ ρ) : Loc env X h ρ' := let ⟨μ, F, K⟩ := L.st; ⟨μ, F, fun p hp => K p (q p hp)⟩
noncomputable def Rea (env : Env) (x : Str) : Prop := env.kindOf x = some .local ∨ ((env.kindOf x = some .cell ∨ env.kindOf x = some .free) ∧ ∃ c, env.cells.lookup x = some c)
theorem mem_of_look {ρ : List (Str × Dat)} {x : Str} {d : Dat} (q : ρ.lookup x = some d) : (x, d) ∈ ρ := PySem.mem_of_lookup q
theorem Loc.var {ρ : List (Str × Dat)} {x : Str} {d : Dat} (L : Loc env X h ρ) (q : (x, d) ∈ ρ) (hx : Rea env x) : ∃ v, Var env h x v ∧ Rd X h v d := by
  obtain ⟨μ, F, K⟩ := L.st
  obtain ⟨v, a, b⟩ := K _ q
  refine ⟨v, ?_, b⟩
  rcases hx with hx | ⟨hx, c, hc⟩
  · obtain ⟨m, n, e⟩ := F.ns
    exact .inl ⟨hx, m, n, (e x hx).trans a⟩
  · exact .inr ⟨hx, c, hc, a ▸ F.cell x c hx hc⟩
theorem EV.name {ρ : List (Str × Dat)} {x : Str} {pos : Pos} {d : Dat} (L : Loc env X h ρ) (hk : env.scope.kind = .function) (q : ρ.lookup x = some d) (hx : Rea env x) (hd : (x == ("__debug__" : Str) || x == ("__classdict__" : Str)) = false) :
    EV prog w A env X h (.Name x pos) d := by
  obtain ⟨v, a, b⟩ := L.var (mem_of_look q) hx
  exact EV.var hk a b hd
structure Stp (env : Env) (M : Addr → Prop) (s s' : Shared) : Prop where
  seq : SeqExt M s.heap s'.heap
  kept : ∀ b o, ¬ Own env b → ¬ M b → Sg s.heap b o → Sg s'.heap b o
  tab : ∀ ps, TabAt s.heap ps → ∃ more, TabAt s'.heap (ps ++ more)
variable {M : Addr → Prop}
theorem Stp.refl (s : Shared) : Stp env M s s := ⟨fun _ _ _ e _ => e, fun _ _ _ _ e => e, (Ext.refl _).tab⟩
theorem Stp.trans {a b c : Shared} (x : Stp env M a b) (y : Stp env M b c) : Stp env M a c := ⟨x.seq.trans y.seq, fun b o nb nm e => y.kept b o nb nm (x.kept b o nb nm e), fun ps t => by
  obtain ⟨m, t⟩ := x.tab ps t
  obtain ⟨m', t⟩ := y.tab _ t
  exact ⟨m ++ m', by rw [← Array.append_assoc]; exact t⟩⟩
theorem Stp.of {a b : Shared} (k : Kp a b) : Stp env M a b := ⟨k.ext.seq, fun b o _ _ e => k.ext.kept b o e, k.ext.tab⟩
theorem Stp.ext {h : Heap} {a b : Shared} (k : Ext h a.heap) (ap : ∀ b, Own env b ∨ M b → ∀ o, ¬ Sg h b o) (x : Stp env M a b) : Ext h b.heap := ⟨fun b o e => x.kept b o (fun z => ap b (.inl z) o e) (fun z => ap b (.inr z) o e) (k.kept b o e), fun ps t => by
  obtain ⟨m, t⟩ := k.tab ps t
  obtain ⟨m', t⟩ := x.tab _ t
  exact ⟨m ++ m', by rw [← Array.append_assoc]; exact t⟩⟩
structure Fm (env : Env) (X M : Addr → Prop) (s₀ s : Shared) (ρ : List (Str × Dat)) : Prop where
  loc : Loc env X s.heap ρ
  same : Kp s₀ s
  apart : ∀ b, Own env b ∨ M b → ∀ o, ¬ Sg s₀.heap b o
  live : Live X s.heap
  own : ∀ b, X b → ¬ Own env b
theorem Fm.kp {s₀ s s' : Shared} {ρ : List (Str × Dat)} (F : Fm env X M s₀ s ρ) (k : Kp s s') : Fm env X M s₀ s' ρ := ⟨F.loc.ext k.ext, F.same.trans k, F.apart, F.live.ext k.ext, F.own⟩
theorem Fm.sub {s₀ s : Shared} {ρ ρ' : List (Str × Dat)} (F : Fm env X M s₀ s ρ) (q : ∀ p ∈ ρ', p ∈ ρ) : Fm env X M s₀ s ρ' := ⟨F.loc.sub q, F.same, F.apart, F.live, F.own⟩
theorem Fm.at {s₀ s : Shared} {ρ : List (Str × Dat)} (F : Fm env X M s₀ s ρ) : At X s.heap s.heap := At.here F.live
theorem Fm.store {s₀ : Shared} {ρ : List (Str × Dat)} {x : Str} {v : Value} {d : Dat} {Q : Unit → Shared → Prop} (O : EnvOk env) (F : Fm env X M s₀ s ρ) (hx : Sto env x) (r : Rd X s.heap v d)
    (hQ : ∀ s', Fm env X M s₀ s' ((x, d) :: drop x ρ) → Stp env M s s' → Q () s') : wpAny (model prog w) A (storeName env x v) Q E s := by
  obtain ⟨μ, G, K⟩ := F.loc.st
  obtain ⟨h₁, t₁, e₁, k₁⟩ := id F.same
  refine Mine.store O G hx fun h' tk G' k kk' kt => ?_
  have st : Stp env M s { s with heap := h', toks := tk } := ⟨k.weak fun _ z => z.elim, fun b o nb _ e => ⟨kk' b o (fun z => nb z.own) e.1, e.2⟩, kt⟩
  refine hQ _ ⟨⟨_, G', (K.mono (k.weak fun _ z => z.elim)).put (r.mono (k.weak fun _ z => z.elim))⟩, ⟨h', tk, by rw [e₁], st.ext F.same.ext F.apart⟩, F.apart, ?_, F.own⟩ st
  exact ⟨fun b z => let ⟨o, e⟩ := F.live.live b z; ⟨o, kk' b o (fun q => F.own b z q.own) e.1, e.2⟩, let ⟨ps, t⟩ := F.live.tab; let ⟨m, t⟩ := kt ps t; ⟨_, t⟩⟩
theorem ex_assign {s₀ : Shared} {ρ : List (Str × Dat)} {x : Str} {px pos : Pos} {e : Expr} {d : Dat} {rest : List Stmt} {Q : Flow → Shared → Prop} (O : EnvOk env) (F : Fm env X M s₀ s ρ) (he : EV prog w A env X s.heap e d) (hx : Sto env x)
    (hs : swapsWith e (some (.Name x px)) pos.line env = pure false)
    (k : ∀ s', Fm env X M s₀ s' ((x, d) :: drop x ρ) → Stp env M s s' → wpAny (model prog w) A (execs rest env) Q E s') : wpAny (model prog w) A (execs (.Assign [.Name x px] e pos :: rest) env) Q E s :=
  wpAny_execs_cons (wpAny_Assign_Name (he.now F.at fun v s₁ r k₁ => Fm.store O (F.kp k₁) hx r fun s' F' st => k s' F' ((Stp.of k₁).trans st)) hs)
theorem ex_return {s₀ : Shared} {ρ : List (Str × Dat)} {pos : Pos} {e : Expr} {d : Dat} {rest : List Stmt} {Q : Flow → Shared → Prop} (F : Fm env X M s₀ s ρ) (he : EV prog w A env X s.heap e d)
    (k : ∀ v s', Rd X s'.heap v d → Kp s₀ s' → Kp s s' → Q (.ret v) s') : wpAny (model prog w) A (execs (.Return (some e) pos :: rest) env) Q E s :=
  wpAny_execs_cons (wpAny_Return_some (he.now F.at fun v s₁ r k₁ => k v s₁ r (F.same.trans k₁) k₁))
theorem ex_if {s₀ : Shared} {ρ : List (Str × Dat)} (F : Fm env X M s₀ s ρ) {test : Expr} {body orelse rest : List Stmt} {pos : Pos} {c : Bool} {Q : Flow → Shared → Prop} (ht : TV prog w A env X s.heap test c)
    (k : ∀ s', Kp s s' → Fm env X M s₀ s' ρ → wpAny (model prog w) A (execs (if c = true then body else orelse) env) (fun f s' => match f with | .next => wpAny (model prog w) A (execs rest env) Q E s' | f => Q f s') E s') :
    wpAny (model prog w) A (execs (.If test body orelse pos :: rest) env) Q E s :=
  wpAny_execs_cons (wpAny_If (ht.now F.at fun s' k' => by
    have := k s' k' (F.kp k')
    cases c <;> exact this))
end
end Mine
end
section
open PySem PySem.W PyProof.Rows
set_option Elab.async false
set_option linter.unusedVariables false
namespace Mine
section
variable {prog : Program} {w : World} {A : Around} {env : Env} {X : Addr → Prop} {h : Heap}
noncomputable def Fn (prog : Program) (w : World) (A : Around) (X : Addr → Prop) (f : Value) (ds : List Dat) (d : Dat) : Prop :=
  ∀ (s : Shared) (E : Value → Shared → Prop) (vs : List Value), Live X s.heap → RdL X s.heap vs ds → wpAny (model prog w) A (call f vs) (fun r s' => Rd X s'.heap r d ∧ Kp s s') E s
theorem EV.callB {x : Str} {px pos : Pos} {id : String} {e : Expr} {es : List Expr} {ds : List Dat} {d : Dat} (hf : EV prog w A env X h (.Name x px) (.val (.builtin id))) (ha : EVs prog w A env X h (e :: es) ds)
    (hc : Fn prog w A X (.builtin id) ds d) (he : starEach (e :: es) env = (false, eval e env) :: starEach es env) (hp : ∀ pos, (backTo pos (starEach es env)).any (·.1) = false) : EV prog w A env X h (.Call (.Name x px) (e :: es) [] pos) d := fun s E k =>
  wpAny_Call_NameR (hf.now k fun f s₁ r₁ k₁ => by
    cases r₁
    exact PyProof.Rows.callWith_builtin1 (wpAny_mono (ha pos s₁ E (k.go k₁.ext)) (fun vs s₂ q => wpAny_mono (hc s₂ E vs (k.live.ext (k₁.trans q.2).ext) q.1) (fun r s₃ z => ⟨z.1, (k₁.trans q.2).trans z.2⟩) fun _ _ e => e) fun _ _ e => e) he (hp _))
theorem EV.callT {x : Str} {px pos : Pos} {T : String} {e : Expr} {es : List Expr} {ds : List Dat} {d : Dat} (hf : EV prog w A env X h (.Name x px) (.val (.type T))) (ha : EVs prog w A env X h (e :: es) ds)
    (hc : Fn prog w A X (.type T) ds d) (he : starEach (e :: es) env = (false, eval e env) :: starEach es env) (hp : ∀ pos, (backTo pos (starEach es env)).any (·.1) = false) : EV prog w A env X h (.Call (.Name x px) (e :: es) [] pos) d := fun s E k =>
  wpAny_Call_NameR (hf.now k fun f s₁ r₁ k₁ => by
    cases r₁
    exact PyProof.Rows.callWith_type1 (wpAny_mono (ha pos s₁ E (k.go k₁.ext)) (fun vs s₂ q => wpAny_mono (hc s₂ E vs (k.live.ext (k₁.trans q.2).ext) q.1) (fun r s₃ z => ⟨z.1, (k₁.trans q.2).trans z.2⟩) fun _ _ e => e) fun _ _ e => e) he (hp _))
theorem RdL.one {X : Addr → Prop} {h : Heap} {vs : List Value} {d : Dat} (x : RdL X h vs [d]) : ∃ v, vs = [v] ∧ Rd X h v d := by
  cases vs with
  | nil => exact absurd x.1 (by simp)
  | cons v vs =>
    obtain ⟨_, _, e, a, b⟩ := x.cons_inv
    cases e
    cases vs with
    | nil => exact ⟨v, rfl, a⟩
    | cons _ _ => exact absurd b.1 (by simp)
theorem RdL.two {X : Addr → Prop} {h : Heap} {vs : List Value} {d e : Dat} (x : RdL X h vs [d, e]) : ∃ v u, vs = [v, u] ∧ Rd X h v d ∧ Rd X h u e := by
  cases vs with
  | nil => exact absurd x.1 (by simp)
  | cons v vs =>
    obtain ⟨_, _, q, a, b⟩ := x.cons_inv
    cases q
    obtain ⟨u, rfl, c⟩ := b.one
    exact ⟨v, u, rfl, a, c⟩
theorem RdL.three {X : Addr → Prop} {h : Heap} {vs : List Value} {d e f : Dat} (x : RdL X h vs [d, e, f]) : ∃ v u t, vs = [v, u, t] ∧ Rd X h v d ∧ Rd X h u e ∧ Rd X h t f := by
  cases vs with
  | nil => exact absurd x.1 (by simp)
  | cons v vs =>
    obtain ⟨_, _, q, a, b⟩ := x.cons_inv
    cases q
    obtain ⟨u, t, rfl, c, g⟩ := b.two
    exact ⟨v, u, t, rfl, a, c, g⟩
theorem Fn.len {ds : List Dat} (hn : (ds.length : Int) < 2 ^ 63) : Fn prog w A X (.builtin "len") [.list ds] (.int ds.length) := by
  intro s E vs hX x
  obtain ⟨v, rfl, r⟩ := x.one
  obtain ⟨a, us, rfl, hx, hl, y⟩ := r.list_inv
  refine Calls.call_len_list hl.isList (by simp only [List.size_toArray, y.1]; exact hn) ⟨?_, Kp.toks s _⟩
  simp only [List.size_toArray, y.1]; exact .int _ _
theorem Fn.lenT {ds : List Dat} (hn : (ds.length : Int) < 2 ^ 63) : Fn prog w A X (.builtin "len") [.tup ds] (.int ds.length) := by
  intro s E vs hX x
  obtain ⟨v, rfl, r⟩ := x.one
  obtain ⟨a, us, rfl, hx, hl, y⟩ := r.tup_inv
  refine PyProof.Rows.len_tuple ⟨_, hl, rfl, 0, rfl⟩ (by simp only [List.size_toArray, y.1]; exact hn) ⟨?_, Kp.toks s _⟩
  simp only [List.size_toArray, y.1]; exact .int _ _
theorem Fn.lenS {x : Str} (hn : (x.length : Int) < 2 ^ 63) : Fn prog w A X (.builtin "len") [.str x] (.int x.length) := by
  intro s E vs hX q
  obtain ⟨v, rfl, r⟩ := q.one
  cases r
  exact PyProof.Rows.len_str (by omega) ⟨.int _ _, Kp.toks s _⟩
theorem Fn.chr {i : Int} (h0 : 0 ≤ i) (h1 : i ≤ 1114111) : Fn prog w A X (.builtin "chr") [.int i] (.str ⟨#[i.toNat]⟩) := by
  intro s E vs hX q
  obtain ⟨v, rfl, r⟩ := q.one
  cases r
  exact chr_of_range h0 h1 ⟨.str _ _, Kp.toks s _⟩
theorem Fn.ord {c : Nat} : Fn prog w A X (.builtin "ord") [.str ⟨#[c]⟩] (.int c) := by
  intro s E vs hX q
  obtain ⟨v, rfl, r⟩ := q.one
  cases r
  exact PySem.P.ord_of_char ⟨.int _ _, Kp.toks s _⟩
theorem Fn.max2 {a b : Int} (hh : A.handled = none) : Fn prog w A X (.builtin "max") [.int a, .int b] (.int (max a b)) := by
  intro s E vs hX q
  obtain ⟨v, u, rfl, r, t⟩ := q.two
  cases r; cases t
  refine max_two_ints hh fun h' tk k => ⟨?_, Kp.heap k _⟩
  split
  · rename_i c; rw [Int.max_eq_right (by omega)]; exact .int _ _
  · rename_i c; rw [Int.max_eq_left (by omega)]; exact .int _ _
theorem Fn.min2 {a b : Int} (hh : A.handled = none) : Fn prog w A X (.builtin "min") [.int a, .int b] (.int (min a b)) := by
  intro s E vs hX q
  obtain ⟨v, u, rfl, r, t⟩ := q.two
  cases r; cases t
  refine min_two_ints hh fun h' tk k => ⟨?_, Kp.heap k _⟩
  split
  · rename_i c; rw [Int.min_eq_right (by omega)]; exact .int _ _
  · rename_i c; rw [Int.min_eq_left (by omega)]; exact .int _ _
theorem Fn.tupleL {ds : List Dat} (hn : ds.length ≤ sizeLine) : Fn prog w A X (.type "tuple") [.list ds] (.tup ds) := by
  intro s E vs hX x
  obtain ⟨v, rfl, r⟩ := x.one
  obtain ⟨a, us, rfl, hx, hl, y⟩ := r.list_inv
  refine call_tuple_list hl.isList (fun h' k => ⟨?_, ?_⟩) (by simp only [List.size_toArray, y.1]; exact hn)
  · exact .ofTup (hX.ext (.of k)).new (Heap.get?_push_size _ rfl) ((y.ext (.of k)).ext (Ext.push _ _))
  · exact ⟨_, s.toks, rfl, (Ext.of k).trans (Ext.push _ _)⟩
theorem preSum_get (xs : List Int) : ∀ n ≤ xs.length, preSum (fun i => xs.getD i 0) n = (xs.take n).sum
  | 0, _ => by simp [preSum]
  | n + 1, h => by
    rw [preSum, preSum_get xs n (by omega), List.take_add_one, List.sum_append]
    congr 1
    simp [List.getD, List.getElem?_eq_getElem (show n < xs.length by omega)]
theorem RdL.ints_at {X : Addr → Prop} {h : Heap} {vs : List Value} {xs : List Int} (x : RdL X h vs (xs.map .int)) {i : Nat} {v : Value} (e : vs.toArray[i]? = some v) : ∃ t, v = .int (xs.getD i 0) t := by
  simp only [List.getElem?_toArray] at e
  have hi : i < vs.length := (List.getElem?_eq_some_iff.mp e).1
  have hx : i < xs.length := by have := x.1; simp at this; omega
  have r := x.2 i v (.int xs[i]) e (by simp [hx])
  cases r
  rename_i t
  exact ⟨t, by simp [List.getD, hx]⟩
theorem old_kept' {s : Shared} {l : Addr} {h' : Heap} (hk : ∀ b o, b ∉ [s.heap.objs.size] → (s.heap.push { cls := .type "list_iterator", data := .fields #[.ref l, .int 0 0] }).get? b = some o → h'.get? b = some o) : ∀ b o, s.heap.get? b = some o → h'.get? b = some o := old_kept hk
theorem iter_list {s : Shared} {E : Value → Shared → Prop} {l : Addr} {items : Array Value} {Q : Value → Shared → Prop} (hl : s.heap.IsList l items)
    (h : ∀ s₂ : Shared, s₂ = { s with heap := s.heap.push { cls := .type "list_iterator", data := .fields #[.ref l, .int 0 0] } } →
      (s₂.heap.IsListIter s.heap.objs.size l 0 ∧ s₂.heap.IsList l items) → (∀ b ∈ [s.heap.objs.size, l], b < s₂.heap.objs.size) → l ≠ s.heap.objs.size → Q (.ref s.heap.objs.size) s₂) :
    wpAny (model prog w) A (pyIter (.ref l)) Q E s := by
  have hlt : l < s.heap.objs.size := by obtain ⟨_, e, _⟩ := hl; exact Heap.lt_size e
  refine wpAny_pyIter_list hl (h _ rfl ⟨⟨_, Heap.get?_push_size _ rfl, rfl, rfl⟩, hl.push _⟩ (fun b hb => ?_) (Nat.ne_of_lt hlt))
  show b < (s.heap.push _).objs.size
  rw [Heap.size_push]
  rcases List.mem_cons.mp hb with rfl | hb
  · exact Nat.lt_succ_self _
  · rcases List.mem_cons.mp hb with rfl | hb
    · exact Nat.lt_succ_of_lt hlt
    · cases hb
theorem Fn.sum {xs : List Int} (hh : A.handled = none) : Fn prog w A X (.builtin "sum") [.list (xs.map .int)] (.int xs.sum) := by
  intro s E vs hX x
  obtain ⟨v, rfl, r⟩ := x.one
  obtain ⟨l, us, rfl, hx, hl, y⟩ := r.list_inv
  refine call_sum_walkG (iter_list hl.isList fun s₂ e st hfp hlI => ?_)
  subst e
  refine ⟨_, _, _, _, _, _, (fun i => xs.getD i 0), rfl, Walks.list (A := A.in1) hh _ l hlI us.toArray, st, hfp, (fun i v => y.ints_at), fun h' tk t' hk => ?_⟩
  have e : us.toArray.size = xs.length := by have := y.1; simp at this; simp [this]
  rw [e, preSum_get xs _ (Nat.le_refl _), List.take_length]
  exact ⟨.int _ _, Kp.heap (old_kept' hk) _⟩
theorem argBest_max (xs : List Int) : ∀ n < xs.length, argBest (fun i j => decide (xs.getD i 0 > xs.getD j 0)) n ≤ n ∧ ∀ i ≤ n, xs.getD i 0 ≤ xs.getD (argBest (fun i j => decide (xs.getD i 0 > xs.getD j 0)) n) 0
  | 0, _ => ⟨Nat.le_refl _, fun i hi => by obtain rfl : i = 0 := by omega
                                           exact Int.le_refl _⟩
  | n + 1, h => by
    obtain ⟨h1, h2⟩ := argBest_max xs n (by omega)
    simp only [argBest]
    by_cases c : xs.getD (n + 1) 0 > xs.getD (argBest (fun i j => decide (xs.getD i 0 > xs.getD j 0)) n) 0
    · rw [if_pos (by simpa using c)]
      refine ⟨Nat.le_refl _, fun i hi => ?_⟩
      by_cases e : i = n + 1
      · subst e; exact Int.le_refl _
      · have := h2 i (by omega); omega
    · rw [if_neg (by simpa using c)]
      refine ⟨by omega, fun i hi => ?_⟩
      by_cases e : i = n + 1
      · subst e; omega
      · exact h2 i (by omega)
theorem argBest_min (xs : List Int) : ∀ n < xs.length, argBest (fun i j => decide (xs.getD i 0 < xs.getD j 0)) n ≤ n ∧ ∀ i ≤ n, xs.getD (argBest (fun i j => decide (xs.getD i 0 < xs.getD j 0)) n) 0 ≤ xs.getD i 0
  | 0, _ => ⟨Nat.le_refl _, fun i hi => by obtain rfl : i = 0 := by omega
                                           exact Int.le_refl _⟩
  | n + 1, h => by
    obtain ⟨h1, h2⟩ := argBest_min xs n (by omega)
    simp only [argBest]
    by_cases c : xs.getD (n + 1) 0 < xs.getD (argBest (fun i j => decide (xs.getD i 0 < xs.getD j 0)) n) 0
    · rw [if_pos (by simpa using c)]
      refine ⟨Nat.le_refl _, fun i hi => ?_⟩
      by_cases e : i = n + 1
      · subst e; exact Int.le_refl _
      · have := h2 i (by omega); omega
    · rw [if_neg (by simpa using c)]
      refine ⟨by omega, fun i hi => ?_⟩
      by_cases e : i = n + 1
      · subst e; omega
      · exact h2 i (by omega)
noncomputable def IsMax (xs : List Int) (m : Int) : Prop := m ∈ xs ∧ ∀ x ∈ xs, x ≤ m
noncomputable def IsMin (xs : List Int) (m : Int) : Prop := m ∈ xs ∧ ∀ x ∈ xs, m ≤ x
theorem mem_getD {xs : List Int} {x : Int} (hx : x ∈ xs) : ∃ i < xs.length, xs.getD i 0 = x := by
  obtain ⟨i, hi, e⟩ := List.getElem_of_mem hx
  exact ⟨i, hi, by simp [List.getD, hi, e]⟩
theorem getD_mem {xs : List Int} {i : Nat} (hi : i < xs.length) : xs.getD i 0 ∈ xs := by simp [List.getD, hi]
theorem Fn.max {xs : List Int} {m : Int} (hh : A.handled = none) (hm : IsMax xs m) : Fn prog w A X (.builtin "max") [.list (xs.map .int)] (.int m) := by
  intro s E vs hX x
  obtain ⟨v, rfl, r⟩ := x.one
  obtain ⟨l, us, rfl, hx, hl, y⟩ := r.list_inv
  have e : us.toArray.size = xs.length := by have := y.1; simp at this; simp [this]
  have hne : 0 < xs.length := List.length_pos_of_mem hm.1
  refine call_max_walk (iter_list hl.isList fun s₂ e' st hfp hlI => ?_)
  subst e'
  refine ⟨_, _, _, _, _, _, _, rfl, Walks.list (A := A.in1) hh _ l hlI us.toArray, st, hfp, by rw [e]; exact hne, CmpOf.ints_gt (fun i => xs.getD i 0) (fun i v => y.ints_at), fun v h' tk hP hk => ?_⟩
  rw [e] at hP
  obtain ⟨t, rfl⟩ := y.ints_at hP
  obtain ⟨h1, h2⟩ := argBest_max xs (xs.length - 1) (by omega)
  have : xs.getD (argBest (fun i j => decide (xs.getD i 0 > xs.getD j 0)) (xs.length - 1)) 0 = m := by
    apply Int.le_antisymm
    · exact hm.2 _ (getD_mem (by omega))
    · obtain ⟨i, hi, q⟩ := mem_getD hm.1
      rw [← q]; exact h2 i (by omega)
  rw [this]
  exact ⟨.int _ _, Kp.heap (old_kept' hk) _⟩
theorem Fn.min {xs : List Int} {m : Int} (hh : A.handled = none) (hm : IsMin xs m) : Fn prog w A X (.builtin "min") [.list (xs.map .int)] (.int m) := by
  intro s E vs hX x
  obtain ⟨v, rfl, r⟩ := x.one
  obtain ⟨l, us, rfl, hx, hl, y⟩ := r.list_inv
  have e : us.toArray.size = xs.length := by have := y.1; simp at this; simp [this]
  have hne : 0 < xs.length := List.length_pos_of_mem hm.1
  refine call_min_walk (iter_list hl.isList fun s₂ e' st hfp hlI => ?_)
  subst e'
  refine ⟨_, _, _, _, _, _, _, rfl, Walks.list (A := A.in1) hh _ l hlI us.toArray, st, hfp, by rw [e]; exact hne, CmpOf.ints_lt (fun i => xs.getD i 0) (fun i v => y.ints_at), fun v h' tk hP hk => ?_⟩
  rw [e] at hP
  obtain ⟨t, rfl⟩ := y.ints_at hP
  obtain ⟨h1, h2⟩ := argBest_min xs (xs.length - 1) (by omega)
  have : xs.getD (argBest (fun i j => decide (xs.getD i 0 < xs.getD j 0)) (xs.length - 1)) 0 = m := by
    apply Int.le_antisymm
    · obtain ⟨i, hi, q⟩ := mem_getD hm.1
      rw [← q]; exact h2 i (by omega)
    · exact hm.2 _ (getD_mem (by omega))
  rw [this]
  exact ⟨.int _ _, Kp.heap (old_kept' hk) _⟩
end
end Mine
end
section
open PySem PySem.W PyProof.Rows
set_option Elab.async false
set_option linter.unusedVariables false
namespace Mine
section
variable {prog : Program} {w : World} {A : Around} {env : Env} {X : Addr → Prop} {h : Heap}
noncomputable def FnH (prog : Program) (w : World) (A : Around) (X : Addr → Prop) (h : Heap) (f : Value) (ds : List Dat) (d : Dat) : Prop :=
  ∀ (s : Shared) (E : Value → Shared → Prop) (vs : List Value), At X h s.heap → RdL X s.heap vs ds → wpAny (model prog w) A (call f vs) (fun r s' => Rd X s'.heap r d ∧ Kp s s') E s
theorem FnH.mono {h' : Heap} {f : Value} {ds : List Dat} {d : Dat} (x : FnH prog w A X h f ds d) (k : Ext h h') : FnH prog w A X h' f ds d := fun s E vs k' r => x s E vs (k'.sub k) r
noncomputable def IsDef (h : Heap) (a : Addr) (fd : FuncData) : Prop := ∃ o, h.get? a = some o ∧ o.data = .func fd
theorem IsDef.ext {h' : Heap} {a : Addr} {fd : FuncData} (x : IsDef h a fd) (k : Ext h h') : IsDef h' a fd := let ⟨o, e, d⟩ := x; ⟨o, k.get e (solid_func d), d⟩
theorem EV.callF {x : Str} {px pos : Pos} {a : Addr} {fd : FuncData} {e : Expr} {es : List Expr} {ds : List Dat} {d : Dat} (hf : EV prog w A env X h (.Name x px) (.val (.ref a))) (ha : EVs prog w A env X h (e :: es) ds)
    (hc : FnH prog w A X h (.ref a) ds d) (ho : IsDef h a fd) (he : starEach (e :: es) env = (false, eval e env) :: starEach es env) : EV prog w A env X h (.Call (.Name x px) (e :: es) [] pos) d := fun s E k =>
  wpAny_Call_NameR (hf.now k fun f s₁ r₁ k₁ => by
    cases r₁
    obtain ⟨o, ho, hd⟩ := ho
    exact callWith_def hd (wpAny_mono (ha pos s₁ E (k.go k₁.ext)) (fun vs s₂ q => ⟨((k.go k₁.ext).go q.2.ext).ext.get ho (solid_func hd), wpAny_mono (hc s₂ E vs ((k.go k₁.ext).go q.2.ext) q.1) (fun r s₃ z => ⟨z.1, (k₁.trans q.2).trans z.2⟩) fun _ _ e => e⟩) fun _ _ e => e) he)
theorem bindL_skip {k : Str → Option NameKind} : ∀ (bs : List (Str × Value)) (m : Str → Option Value) (x : Str), (∀ p ∈ bs, p.1 ≠ x) → bindL k bs m x = m x
  | [], m, x, _ => rfl
  | (n, v) :: r, m, x, hx => by
    unfold bindL
    rw [bindL_skip r _ x fun p hp => hx p (.tail _ hp)]
    split
    · exact if_neg (fun e : x = n => hx (n, v) (.head _) e.symm)
    · rfl
theorem bindC_skip {k : Str → Option NameKind} : ∀ (bs : List (Str × Value)) (m : Str → Option Value) (x : Str), (∀ p ∈ bs, p.1 ≠ x) → bindC k bs m x = m x
  | [], m, x, _ => rfl
  | (n, v) :: r, m, x, hx => by
    unfold bindC
    rw [bindC_skip r _ x fun p hp => hx p (.tail _ hp)]
    split
    · rfl
    · exact if_neg (fun e : x = n => hx (n, v) (.head _) e.symm)
theorem bind_look {k : Str → Option NameKind} : ∀ (bs : List (Str × Value)) (m cm : Str → Option Value) (x : Str) (v : Value), (bs.map (·.1)).Nodup → (x, v) ∈ bs → (if k x = some .local then bindL k bs m x else bindC k bs cm x) = some v
  | (n, u) :: r, m, cm, x, v, hn, hm => by
    rw [List.map_cons, List.nodup_cons] at hn
    rcases List.mem_cons.mp hm with e | hm
    · obtain ⟨e1, e2⟩ := Prod.mk.inj e
      subst e1; subst e2
      have hs : ∀ p ∈ r, p.1 ≠ x := fun p hp e => hn.1 (List.mem_map.mpr ⟨p, hp, e⟩)
      unfold bindL bindC
      split
      · rename_i hk
        rw [bindL_skip r _ x hs]; simp
      · rename_i hk
        rw [bindC_skip r _ x hs]; simp
    · have := bind_look (k := k) r (if k n = some .local then fun y => if y = n then some u else m y else m) (if k n = some .local then cm else fun y => if y = n then some u else cm y) x v hn.2 hm
      unfold bindL bindC
      exact this
theorem knows_zip {h : Heap} {μ : Str → Option Value} : ∀ {xs : List Str} {vs : List Value} {ds : List Dat}, RdL X h vs ds → (∀ x v, (x, v) ∈ xs.zip vs → μ x = some v) → Knows X h μ (xs.zip ds)
  | [], vs, ds, _, _ => fun p hp => by simp at hp
  | x :: xs, [], ds, r, _ => fun p hp => by
    have : ds = [] := by have := r.1; cases ds with | nil => rfl | cons _ _ => simp at this
    subst this; simp at hp
  | x :: xs, v :: vs, ds, r, q => by
    obtain ⟨d, ds, rfl, a, b⟩ := r.cons_inv
    intro p hp
    rw [List.zip_cons_cons] at hp
    rcases List.mem_cons.mp hp with rfl | hp
    · exact ⟨v, q x v (by simp), a⟩
    · exact knows_zip b (fun y u hy => q y u (by rw [List.zip_cons_cons]; exact .tail _ hy)) p hp
theorem own_cells {cs : List (Str × Addr)} (hp : cs.Pairwise fun x y => x.2 ≠ y.2) : ∀ x y c, cs.lookup x = some c → cs.lookup y = some c → x = y := fun x y c a b =>
  PySem.name_of_addr hp (PySem.mem_of_lookup a) (PySem.mem_of_lookup b)
theorem get_none_of_size {h : Heap} {b : Addr} (hb : h.objs.size ≤ b) : h.get? b = none := by
  cases e : h.get? b with
  | none => rfl
  | some o => exact absurd (Heap.lt_size e) (Nat.not_lt.mpr hb)
noncomputable def CodeS (h : Heap) (cd : Value) (q : Str) : Prop := ∃ c o vs t, cd = .ref c ∧ Sg h c o ∧ o.data = .fields vs ∧ vs[1]? = some (.str q t)
theorem CodeS.ext {h h' : Heap} {cd : Value} {q : Str} (x : CodeS h cd q) (k : Ext h h') : CodeS h' cd q := let ⟨c, o, vs, t, e, g, r⟩ := x; ⟨c, o, vs, t, e, k.kept _ _ g, r⟩
theorem CodeS.rec {h : Heap} {cd : Value} {q : Str} (x : CodeS h cd q) : h.CodeRec cd q := let ⟨c, o, vs, t, e, g, r⟩ := x; ⟨c, o, vs, t, e, g.1, r⟩
theorem noLimitExt {h h' : Heap} (x : h.NoLimit) (k : Ext h h') : h'.NoLimit := let ⟨mc, n, e⟩ := x; ⟨mc, nsExt n k, e⟩
theorem FnH.intro {a : Addr} {fd : FuncData} {body : List Stmt} {xs : List Str} {ds : List Dat} {d : Dat} (ho : IsDef h a fd) (hroom : A.depth < recursionLimit) (hlim : h.NoLimit) (hcd : CodeS h fd.code fd.qualname)
    (hbody : fd.body = .stmts body) (hlen : xs.length = ds.length) (hnd : xs.Nodup)
    (hbind : ∀ (s : Shared) (vs : List Value), At X h s.heap → vs.length = xs.length → bindArgs fd ⟨vs, []⟩ = pure (xs.zip vs)) (hclo : fd.closure = [])
    (hkind : ∀ x ∈ xs, ∀ n, fd.scope.names.lookup x = some .local ∨ (fd.scope.names.lookup x = some .cell ∧ ((cellsFrom (n + 1) fd.scope.names []).lookup x).isSome = true))
    (k : ∀ (s s₁ : Shared) (E : Value → Shared → Prop) (env : Env), env = callEnvC fd s.heap.objs.size a → At X h s.heap → EnvOk env → Fm env X Ø s s₁ (xs.zip ds) →
      wpAny (model prog w) (A.deeper env) (execs body env) (fun f s' => Rd X s'.heap (match f with | .ret v => v | _ => .none) d ∧ Kp s s') E s₁)
    (hheld : ∀ n x c, (cellsFrom n fd.scope.names []).lookup x = some c → fd.scope.names.lookup x = some .cell) (hco : fd.scope.isCoroutine = false) (hgen : fd.scope.isGenerator = false) (hk : fd.scope.kind = .function) : FnH prog w A X h (.ref a) ds d := by
  intro s E vs kx r
  obtain ⟨o, ho, hd⟩ := ho
  have hvl : vs.length = xs.length := r.1.trans hlen.symm
  have hz : (xs.zip vs).map (·.1) = xs := by rw [List.map_fst_zip (by omega)]
  refine wpAny_call (codeAny_call_cells (binds := xs.zip vs) hroom (kx.ext.get ho (solid_func hd)) hd (noLimitExt hlim kx.ext) (hcd.ext kx.ext).rec hbody (hbind s vs kx hvl) hclo (fun x hx => hkind x.1 (by rw [← hz]; exact List.mem_map_of_mem hx) _) (fun s₁ I => ?_) hco hgen hk)
  · obtain ⟨h₁, t₁, e₁, k₁⟩ := I.done
    have ks : Kp s s₁ := ⟨h₁, t₁, e₁, .of k₁⟩
    have hown : ∀ b, Own (callEnvC fd s.heap.objs.size a) b → s.heap.get? b = none := fun b hb => by
      rcases hb with rfl | ⟨x, hx⟩
      · exact get_none_of_size (Nat.le_refl _)
      · exact get_none_of_size (Nat.le_of_lt (I.above x b (PySem.mem_of_lookup hx)))
    refine k s s₁ _ _ rfl kx ⟨hk, own_cells I.apart, fun x c hc => .inl (hheld _ x c hc)⟩ ⟨⟨⟨fun x => if (callEnvC fd s.heap.objs.size a).kindOf x = some .local then bindL (callEnvC fd s.heap.objs.size a).kindOf (xs.zip vs) (fun _ => none) x else bindC (callEnvC fd s.heap.objs.size a).kindOf (xs.zip vs) (fun _ => none) x, ⟨⟨_, I.toInCall.ns, fun x hx => by rw [if_pos hx]⟩, fun x c hx hc => ?_⟩, ?_⟩⟩, ks, fun b hb o e => (by have e1 := e.1; rw [hb.elim (hown b) (fun z => z.elim)] at e1; cases e1), kx.live.ext ks.ext, fun b hb hq => ?_⟩
    · have : (callEnvC fd s.heap.objs.size a).kindOf x ≠ some .local := by rcases hx with hx | hx <;> (rw [hx]; decide)
      rw [if_neg this]; exact I.cell x c hc
    · exact knows_zip (r.ext ks.ext) fun x v hx => bind_look _ _ _ x v (by rw [hz]; exact hnd) hx
    · obtain ⟨o, e, _⟩ := kx.live.live b hb
      rw [hown b hq] at e; cases e
end
end Mine
end
section
open PySem PySem.W PyProof.Rows
set_option Elab.async false
set_option linter.unusedVariables false
namespace Mine
noncomputable def puts (μ : Str → Option Value) : List Str → List Value → Str → Option Value
  | x :: xs, v :: vs => puts (put μ x v) xs vs
  | _, _ => μ
noncomputable def Itd (o : Obj) : Prop := (∃ items n, o.data = .seq items n) ∨ ∃ vs, o.data = .fields vs ∧ ∀ q t, vs[1]? ≠ some (.str q t)
structure Feed (prog : Program) (w : World) (A : Around) (I : Addr) (target : Expr) (xs : List Str) (X : Addr → Prop) (h₁ : Heap) (fp wr : Addr → Prop) (rows : List (List Dat)) (St : Nat → Heap → Prop) : Prop where
  sub : ∀ b, wr b → fp b
  new : ∀ b, wr b → h₁.get? b = none
  frame : ∀ i h h', St i h → (∀ b o, fp b → Sg h b o → Sg h' b o) → St i h'
  live : ∀ i h b, St i h → fp b → ∃ o, Sg h b o ∧ Itd o
  self : ∀ i (s : Shared) (Q : Value → Shared → Prop) (E : Value → Shared → Prop), St i s.heap → Q (.ref I) s → wpAny (model prog w) A (pyIter (.ref I)) Q E s
  item : ∀ i row (env : Env) (μ : Str → Option Value) (s : Shared) (E : Value → Shared → Prop) (Q : Shared → Prop), rows[i]? = some row → St i s.heap → Ext h₁ s.heap → EnvOk env → FS env s.heap μ → (∀ x ∈ xs, Sto env x) → (∀ b, fp b → ¬ Own env b) →
    (∀ (s' : Shared) (vs : List Value), RdL X h₁ vs row → vs.length = xs.length → FS env s'.heap (puts μ xs vs) → St (i + 1) s'.heap → (∃ h' tk, s' = { s with heap := h', toks := tk }) → (∀ b o, ¬ wr b → (∀ x ∈ xs, ¬ Tgt env x b) → s.heap.get? b = some o → s'.heap.get? b = some o) →
      (∀ b o, ¬ wr b → s.heap.get? b = some o → (∃ items n, o.data = .seq items n) → s'.heap.get? b = some o) → (∀ ps, TabAt s.heap ps → ∃ more, TabAt s'.heap (ps ++ more)) → Q s') →
    wpAny (model prog w) A (pyNext (.ref I)) (fun r s₁ => ∃ v, r = some v ∧ wpAny (model prog w) A (letOwnedTupleGo target (.ref I) v) (fun _ s₂ => wpAny (model prog w) A (assign target env v) (fun _ s₃ => Q s₃) E s₂) E s₁) E s
  done : ∀ (s : Shared) (E : Value → Shared → Prop) (Q : Shared → Prop), St rows.length s.heap → (∀ h' tk, (∀ b o, ¬ wr b → s.heap.get? b = some o → h'.get? b = some o) → (∀ ps, TabAt s.heap ps → ∃ more, TabAt h' (ps ++ more)) → Q { s with heap := h', toks := tk }) →
    wpAny (model prog w) A (pyNext (.ref I)) (fun r s' => r = none ∧ Q s') E s
noncomputable def Src (prog : Program) (w : World) (A : Around) (env : Env) (X : Addr → Prop) (h : Heap) (e target : Expr) (xs : List Str) (rows : List (List Dat)) : Prop :=
  ∀ (s : Shared) (E : Value → Shared → Prop), At X h s.heap → wpAny (model prog w) A (eval e env) (fun v s₁ => wpAny (model prog w) A (pyIter v) (fun it s₂ => Kp s s₂ ∧
    ∃ h₁ I fp wr St, it = .ref I ∧ Ext s.heap h₁ ∧ Ext h₁ s₂.heap ∧ Feed prog w A I target xs X h₁ fp wr rows St ∧ St 0 s₂.heap ∧ (∀ b, fp b → b < s₂.heap.objs.size)) E s₁) E s
section
variable {prog : Program} {w : World} {A : Around} {R : Result → Shared → Prop} {s : Shared} {X : Addr → Prop} {h : Heap}
theorem comp_loop {elt target iter : Expr} {ifs : List Expr} {scope : Scope} {pos : Pos} {it acc : Value} {env : Env} (I : Nat → Shared → Prop)
    (turn : ∀ n s, I n s → wpAny (model prog w) A (pyNext it) (fun r s₁ => match r with
      | none => R (.ok .next) s₁
      | some v => wpAny (model prog w) A (letOwnedTupleGo target it v) (fun _ s₂ => wpAny (model prog w) A (assign target env v) (fun _ s₂ =>
          wpAny (model prog w) A (forIn ifs true fun c r => if r = true then do let ok ← isTrue c env (eval c env); pure (ForInStep.yield ok) else pure (ForInStep.yield r)) (fun ok s₃ =>
            if ok = true then wpAny (model prog w) A (eval elt env) (fun x s₄ =>
              wpAny (model prog w) A (call (.builtin "list.append") [acc, x]) (fun _ s₅ => ∃ m, m < n ∧ I m s₅) (notedBy (model prog w) A env fun e s' => R (.error e) s') s₄) (notedBy (model prog w) A env fun e s' => R (.error e) s') s₃
            else ∃ m, m < n ∧ I m s₃) (notedBy (model prog w) A env fun e s' => R (.error e) s') s₂) (notedBy (model prog w) A env fun e s' => R (.error e) s') s₂) (notedBy (model prog w) A env fun e s' => R (.error e) s') s₁) (notedBy (model prog w) A env fun e s' => R (.error e) s') s)
    (n : Nat) (h : I n s) :
    codeAny (model prog w) A (.compLoop (.ListComp elt [⟨target, iter, ifs, 0⟩] scope pos) 0 it acc env) R s := by
  refine codeAny_loop rfl I (fun n s hI => ?_) n h
  show wpAny _ A ((compTurn (.ListComp elt [⟨target, iter, ifs, 0⟩] scope pos) 0 it acc env).onRaise (fun x => do noteFrame x env; theTreesLotGoes x)) _ _ s
  refine wpAny_noted ?_
  rw [compTurn_list]
  refine wpAny_bind (wpAny_standAt (wpAny_bind (wpAny_mono (turn n s hI) (fun r s₁ h₁ => ?_) fun _ _ h' => h')))
  cases r with
  | none => exact wpAny_pure h₁
  | some v =>
    refine wpAny_bind (wpAny_mono h₁ (fun _ s₁ h₁ => ?_) fun _ _ h' => h')
    refine wpAny_bind (wpAny_mono h₁ (fun _ s₂ h₂ => wpAny_bind (wpAny_mono h₂ (fun ok s₃ h₃ => ?_) fun _ _ h' => h')) fun _ _ h' => h')
    cases ok with
    | false => exact wpAny_pure ⟨rfl, h₃⟩
    | true =>
      exact wpAny_bind (wpAny_bind (wpAny_mono h₃ (fun x s₄ h₄ => wpAny_bind (wpAny_mono h₄ (fun _ s₅ h₅ => wpAny_pure (wpAny_pure ⟨rfl, h₅⟩)) fun _ _ h' => h')) fun _ _ h' => h'))
noncomputable def Ifs (prog : Program) (w : World) (A : Around) (env : Env) (X : Addr → Prop) (h : Heap) : List Expr → Bool → Prop
  | [], b => b = true
  | [c], b => TV prog w A env X h c b
  | _, _ => False
theorem Ifs.now {env : Env} {ifs : List Expr} {b : Bool} {E : Value → Shared → Prop} {Q : Bool → Shared → Prop} (x : Ifs prog w A env X h ifs b) (k : At X h s.heap) (hQ : ∀ s', Kp s s' → Q b s') :
    wpAny (model prog w) A (forIn ifs true fun c r => if r = true then do let ok ← isTrue c env (eval c env); pure (ForInStep.yield ok) else pure (ForInStep.yield r)) Q E s := by
  match ifs, x with
  | [], x => subst x; exact wpAny_tests_nil (hQ s (Kp.refl s))
  | [c], x => exact wpAny_tests_one (TV.now x k hQ)
theorem puts_look : ∀ (xs : List Str) (vs : List Value) (μ : Str → Option Value), vs.length = xs.length → xs.Nodup → (∀ x v, (x, v) ∈ xs.zip vs → puts μ xs vs x = some v) ∧ ∀ y, y ∉ xs → puts μ xs vs y = μ y
  | [], [], μ, _, _ => ⟨fun x v hx => by simp at hx, fun y _ => rfl⟩
  | [], _ :: _, μ, e, _ => by simp at e
  | _ :: _, [], μ, e, _ => by simp at e
  | x :: xs, v :: vs, μ, e, hn => by
    rw [List.nodup_cons] at hn
    obtain ⟨h1, h2⟩ := puts_look xs vs (put μ x v) (by simpa using e) hn.2
    refine ⟨fun y u hy => ?_, fun y hy => ?_⟩
    · rw [List.zip_cons_cons] at hy
      rcases List.mem_cons.mp hy with e | hy
      · obtain ⟨e1, e2⟩ := Prod.mk.inj e
        subst e1; subst e2
        show puts (put μ y u) xs vs y = some u
        rw [h2 y hn.1]; unfold put; rw [if_pos rfl]
      · exact h1 y u hy
    · have hy' : y ≠ x ∧ y ∉ xs := ⟨fun e => hy (e ▸ .head _), fun e => hy (.tail _ e)⟩
      show puts (put μ x v) xs vs y = μ y
      rw [h2 y hy'.2]; unfold put; rw [if_neg hy'.1]
theorem lookup_relabel {env : Env} : ∀ {names : List (Str × NameKind)} {x : Str} {k : NameKind}, (names.map fun (n, k) => if (k == NameKind.free && env.scope.kind == .function && env.kindOf n == some .cell) then (n, NameKind.cell) else (n, k)).lookup x = some k →
    names.lookup x = some k ∨ (names.lookup x = some .free ∧ k = .cell)
  | [], _, _, h => by simp at h
  | (n, k') :: r, x, k, h => by
    have ih := @lookup_relabel env r x k
    have h' : List.lookup x ((if (k' == NameKind.free && env.scope.kind == .function && env.kindOf n == some .cell) = true then (n, NameKind.cell) else (n, k')) :: (r.map fun (n, k) => if (k == NameKind.free && env.scope.kind == .function && env.kindOf n == some .cell) then (n, NameKind.cell) else (n, k))) = some k := h
    cases hx : x == n with
    | true =>
      by_cases hc : (k' == NameKind.free && env.scope.kind == .function && env.kindOf n == some .cell) = true
      · rw [if_pos hc] at h'
        simp only [List.lookup_cons, hx] at h' ⊢
        have hk : k' = .free := by simp only [Bool.and_eq_true, beq_iff_eq] at hc; exact hc.1.1
        cases h'
        exact .inr ⟨by rw [hk], rfl⟩
      · rw [if_neg hc] at h'
        simp only [List.lookup_cons, hx] at h' ⊢
        exact .inl h'
    | false =>
      by_cases hc : (k' == NameKind.free && env.scope.kind == .function && env.kindOf n == some .cell) = true
      · rw [if_pos hc] at h'
        simp only [List.lookup_cons, hx] at h' ⊢
        exact ih h'
      · rw [if_neg hc] at h'
        simp only [List.lookup_cons, hx] at h' ⊢
        exact ih h'
noncomputable def caps (cl : List (Str × Addr)) (ρ : List (Str × Dat)) : List (Str × Dat) := ρ.filter fun p => (cl.lookup p.1).isSome
theorem comp_core {α : Type} {elt target iter : Expr} {ifs : List Expr} {scope : Scope} {pos : Pos} {env : Env} {cl : List (Str × Addr)} {xs : List Str} {ρ : List (Str × Dat)} {I : Addr} {fp wr : Addr → Prop} {h₁ : Heap} {St : Nat → Heap → Prop}
    (items : List α) (row : α → List Dat) (p : α → Bool) (F : α → Dat) {RR : Value → Addr → Result → Shared → Prop} {E : Value → Shared → Prop}
    (W : Feed prog w A I target xs X h₁ fp wr (items.map row) St) (hst : St 0 s.heap) (hfp : ∀ b, fp b → b < s.heap.objs.size) (hh₁ : Ext h h₁) (hs : Ext h₁ s.heap) (hX : Live X h) (L : Loc env X h ρ)
    (hcell : ∀ y ∈ scope.names, y.2 ≠ .cell) (hkind : scope.kind = .function) (hxs : ∀ x ∈ xs, scope.names.lookup x = some .local) (hnd : xs.Nodup)
    (hcap : ∀ q ∈ cl, env.cells.lookup q.1 = some q.2 ∧ (env.kindOf q.1 = some .cell ∨ env.kindOf q.1 = some .free) ∧ scope.names.lookup q.1 ≠ some .local ∧ ((relabel scope env).names.lookup q.1 = some .cell ∨ (relabel scope env).names.lookup q.1 = some .free)) (hinj : ∀ x y c, cl.lookup x = some c → cl.lookup y = some c → x = y)
    (hlen : ∀ a ∈ items, (row a).length = xs.length) (hsz : items.length ≤ sizeLine)
    (hbody : ∀ a ∈ items, ∀ (C : Addr) (Y : Addr → Prop) (h' : Heap), (∀ b, X b → Y b) → Ext h h' → Live Y h' → Loc (compEnvC scope cl C env) Y h' (xs.zip (row a) ++ caps cl ρ) →
      Ifs prog w A (compEnvC scope cl C env) Y h' ifs (p a) ∧ (p a = true → EV prog w A (compEnvC scope cl C env) Y h' elt (F a)))
    (hRR : ∀ D C s' ys m', s.heap.get? D = none → s.heap.get? C = none → D ≠ C → s'.heap.Ns C m' → (∃ h' tk, s' = { s with heap := h', toks := tk }) → Ext h₁ s'.heap → (∀ b o, ¬ wr b → Sg s.heap b o → Sg s'.heap b o) → (∀ ps, TabAt s.heap ps → ∃ more, TabAt s'.heap (ps ++ more)) →
      s'.heap.PlainList D ys.toArray → RdL X s'.heap ys ((items.filter p).map F) → RR (.ref D) C (.ok .next) s') :
    wpAny (model prog w) A (newList []) (fun acc s₃ => wpAny (model prog w) A (newFunctionEnv scope env.globals cl [] env.qual none .none (some env)) (fun cenv s₄ =>
      codeAny (model prog w) A (.compStart (.ListComp elt [⟨target, iter, ifs, 0⟩] scope pos) 0 (.ref I) acc { cenv with scope := relabel scope env }) (RR acc cenv.locals) s₄) E s₃) E s := by
  refine wpAny_newObj_type (wpAny_newFunctionEnv hcell (by intro y hy; simp at hy) (fun H₁ hns₁ hsb₁ => ?_) hkind)
  dsimp only at hns₁ hsb₁ ⊢
  generalize hH2 : s.heap.push { cls := .type "list", dict := none, data := .seq ([] : List Value).toArray } = H2 at hns₁ hsb₁ ⊢
  have hC : H2.objs.size = s.heap.objs.size + 1 := by rw [← hH2, Heap.size_push]
  have hDC : s.heap.objs.size ≠ H2.objs.size := by rw [hC]; exact Nat.ne_of_lt (Nat.lt_succ_self _)
  generalize hCn : H2.objs.size = C at hns₁ hsb₁ hDC
  have old : ∀ b o, s.heap.get? b = some o → H₁.get? b = some o := fun b o e => hsb₁.extBut b o (by rintro rfl; have := Heap.lt_size e; rw [← hCn, hC] at this; exact Nat.lt_irrefl _ (Nat.lt_of_succ_lt this)) (Heap.get?_push_of_some _ (hH2 ▸ Heap.get?_push_of_some _ e))
  generalize hDn : s.heap.objs.size = D at hDC
  have hacc : H₁.PlainList D #[] := ⟨_, hsb₁.extBut _ _ hDC (Heap.get?_push_of_some _ (hDn ▸ hH2 ▸ Heap.get?_push_size _ rfl))⟩
  have fresh : ∀ a, D ≤ a → s.heap.get? a = none := fun a ha => get_none_of_size (hDn ▸ ha)
  have hDf : ¬ fp D := fun q => by have := hfp _ q; rw [hDn] at this; exact Nat.lt_irrefl _ this
  have hCf : ¬ fp C := fun q => by have := hfp _ q; rw [← hCn, hC] at this; exact Nat.lt_irrefl _ (Nat.lt_of_succ_lt this)
  have hCs : s.heap.get? C = none := fresh _ (by rw [← hCn, hC, hDn]; exact Nat.le_succ _)
  have hDs : s.heap.get? D = none := fresh _ (Nat.le_refl _)
  have hst₁ : St 0 H₁ := W.frame _ _ _ hst fun b o _ e => ⟨old b o e.1, e.2⟩
  let Y : Addr → Prop := fun b => X b ∨ wr b ∨ b = D
  let cenv := compEnvC scope cl C env
  have hO : EnvOk cenv := ⟨by show (relabel scope env).kind = .function; exact hkind, hinj, fun x c hc => (hcap _ (PySem.mem_of_lookup hc)).2.2.2⟩
  have hcells : ∀ x c, cl.lookup x = some c → ∃ o v, h.get? c = some o ∧ o.data = .cell v := fun x c hx => by
    obtain ⟨e1, e2, _⟩ := hcap _ (PySem.mem_of_lookup hx)
    obtain ⟨μ, G, _⟩ := L.st
    obtain ⟨o, e, d⟩ := G.cell _ _ e2 e1
    exact ⟨o, _, e, d⟩
  have hapart : ∀ b, fp b → ¬ Own cenv b := fun b hb q => by
    rcases q with rfl | ⟨x, hx⟩
    · exact hCf hb
    · obtain ⟨o, v, e, d⟩ := hcells x b hx
      obtain ⟨o', ⟨e', _⟩, d'⟩ := W.live _ _ b hst hb
      rw [(hh₁.trans hs).get e (solid_cell d)] at e'; cases e'
      rcases d' with ⟨_, _, d'⟩ | ⟨_, d', _⟩ <;> (rw [d] at d'; cases d')
  have hnotL : ∀ b o, s.heap.get? b = some o → b ≠ C ∧ b ≠ D := by
    intro b o e
    refine ⟨?_, ?_⟩
    · intro z
      rw [z, hCs] at e; cases e
    · intro z
      rw [z, hDs] at e; cases e
  obtain ⟨μe, Ge, Ke⟩ := L.st
  have hnl : ∀ x, (cl.lookup x).isSome = true → cenv.kindOf x ≠ some .local := fun x hx => by
    obtain ⟨c, hc⟩ := Option.isSome_iff_exists.mp hx
    obtain ⟨e1, e2, e3, _⟩ := hcap _ (PySem.mem_of_lookup hc)
    intro q
    rcases lookup_relabel q with q | ⟨_, q⟩
    · exact e3 q
    · cases q
  have hloc : ∀ x ∈ xs, cenv.kindOf x = some .local := fun x hx => lookup_relabel_local (hxs x hx)
  have hcx : ∀ x, (cl.lookup x).isSome = true → x ∉ xs := fun x hx q => hnl x hx (hloc x q)
  let Inv : Nat → Shared → Prop := fun k s' => ∃ i ys μ, k = items.length + 1 - i ∧ i ≤ items.length ∧ (∃ h' tk, s' = { s with heap := h', toks := tk }) ∧ St i s'.heap ∧ s'.heap.PlainList D ys.toArray ∧
    RdL Y s'.heap ys (((items.take i).filter p).map F) ∧ FS cenv s'.heap μ ∧ (∀ x, (cl.lookup x).isSome = true → μ x = μe x) ∧ Ext h₁ s'.heap ∧ (∀ b o, ¬ wr b → Sg s.heap b o → Sg s'.heap b o) ∧ (∀ ps, TabAt s.heap ps → ∃ more, TabAt s'.heap (ps ++ more))
  have hYw : ∀ b, Y b → X b ∨ ∀ o, ¬ Sg h₁ b o := fun b hb => by
    rcases hb with hb | hb | rfl
    · exact .inl hb
    · exact .inr fun o e => by have := e.1; rw [W.new b hb] at this; cases this
    · exact .inr fun o e => by have := (hs.kept _ _ e).1; rw [hDs] at this; cases this
  have hYl : ∀ i h', Ext h₁ h' → St i h' → (∃ ys, h'.PlainList D ys) → Live Y h' := fun i h' k st ⟨ys, n, e⟩ => ⟨fun b hb => by
    rcases hb with hb | hb | rfl
    · exact (hX.ext (hh₁.trans k)).live b hb
    · obtain ⟨o, e, _⟩ := W.live i h' b st (W.sub b hb); exact ⟨o, e⟩
    · exact ⟨_, e, solid_cls rfl⟩, hX.tab.ext (hh₁.trans k)⟩
  have loop : ∀ s₃ : Shared, s₃ = { s with heap := H₁, toks := s.toks + ([] : List (Str × Value)).length } →
      codeAny (model prog w) A (.compLoop (.ListComp elt [⟨target, iter, ifs, 0⟩] scope pos) 0 (.ref I) (.ref D) cenv) (RR (.ref D) C) s₃ := by
    rintro s₃ rfl
    refine comp_loop Inv ?_ (items.length + 1) ⟨0, [], fun x => if cenv.kindOf x = some .local then none else μe x, rfl, Nat.zero_le _, ⟨_, _, rfl⟩, hst₁, hacc, by simpa using RdL.nil, ⟨⟨_, hns₁, fun x hx => by rw [if_pos hx]; rfl⟩, fun x c hx hc => ?_⟩,
      fun x hx => if_neg (hnl x hx), hs.trans (.of old), fun b o _ e => ⟨old b o e.1, e.2⟩, (Ext.of old).tab⟩
    · rintro k s' ⟨i, ys, μ, rfl, hi, ⟨hh, tt, hsame⟩, hst', hacc', hys, G, hμ, hext, hkeep, htab⟩
      cases ha : items[i]? with
      | none =>
        have hi' : i = items.length := by
          have := List.getElem?_eq_none_iff.mp ha
          omega
        subst hi'
        refine wpAny_mono (W.done s' _ (fun s'' => RR (.ref D) C (.ok .next) s'') (by simpa using hst') fun h'' tk kk kt => ?_) (fun r s'' q => by obtain ⟨rfl, q⟩ := q; exact q) fun _ _ e => e
        obtain ⟨m, n, _⟩ := G.ns
        have hCw : ¬ wr C := fun z => hCf (W.sub _ z)
        have hDw : ¬ wr D := fun z => hDf (W.sub _ z)
        have kY : SeqExt Y s'.heap h'' := fun b o nb e _ => kk b o (fun z => nb (.inr (.inl z))) e
        refine hRR D C _ ys m hDs hCs hDC (n.at' fun o e => kk _ o hCw e) ⟨h'', tk, by rw [hsame]⟩ (have kx : Ext s'.heap h'' → True := fun _ => trivial; ⟨fun b o e => ⟨kk b o (fun z => by have := e.1; rw [W.new b z] at this; cases this) (hext.kept b o e).1, e.2⟩, fun ps t => by obtain ⟨m, t⟩ := hext.tab ps t; obtain ⟨m', t⟩ := kt _ t; exact ⟨m ++ m', by rw [← Array.append_assoc]; exact t⟩⟩) (fun b o nb e => ⟨kk b o nb (hkeep b o nb e).1, e.2⟩) (fun ps t => by obtain ⟨m, t⟩ := htab ps t; obtain ⟨m', t⟩ := kt _ t; exact ⟨m ++ m', by rw [← Array.append_assoc]; exact t⟩) ?_ ?_
        · obtain ⟨n', e⟩ := hacc'; exact ⟨n', kk _ _ hDw e⟩
        · have q : RdL Y h'' ys ((items.filter p).map F) := by
            have := hys.mono kY
            rwa [List.take_length] at this
          exact ⟨q.1, fun i v d a b => (q.2 i v d a b).weak fun b hb => .inl hb⟩
      | some a =>
        have hia : i < items.length := (List.getElem?_eq_some_iff.mp ha).1
        have hmem : a ∈ items := List.mem_of_getElem? ha
        refine wpAny_mono (W.item i (row a) cenv μ s' _ (fun s₃ => wpAny (model prog w) A (forIn ifs true fun c r => if r = true then do let ok ← isTrue c cenv (eval c cenv); pure (ForInStep.yield ok) else pure (ForInStep.yield r)) (fun ok s₃ =>
            if ok = true then wpAny (model prog w) A (eval elt cenv) (fun x s₄ =>
              wpAny (model prog w) A (call (.builtin "list.append") [.ref D, x]) (fun _ s₅ => ∃ m, m < items.length + 1 - i ∧ Inv m s₅) (notedBy (model prog w) A cenv fun e s' => RR (.ref D) C (.error e) s') s₄) (notedBy (model prog w) A cenv fun e s' => RR (.ref D) C (.error e) s') s₃
            else ∃ m, m < items.length + 1 - i ∧ Inv m s₃) (notedBy (model prog w) A cenv fun e s' => RR (.ref D) C (.error e) s') s₃) (by rw [List.getElem?_map, ha]; rfl) hst' hext hO G (fun x hx => .inl (hloc x hx)) hapart ?_) (fun r s'' q => by
              obtain ⟨v, rfl, q⟩ := q; exact q) fun _ _ e => e
        intro s₁ vs hvs hvl G₁ hst₁' hsame₁ hk₁ hq₁ ht₁
        have hDw : ¬ wr D := fun z => hDf (W.sub _ z)
        have hk₁' : ∀ b o, b ≠ C → ¬ wr b → s'.heap.get? b = some o → s₁.heap.get? b = some o := fun b o nc nw e => hk₁ b o nw (fun x hx z => by
          rcases z with ⟨_, z⟩ | ⟨z, _⟩
          · exact nc z
          · rw [hloc x hx] at z; cases z) e
        have hext₁ : Ext h₁ s₁.heap := ⟨fun b o e => ⟨hk₁' b o (hnotL b o (hs.kept _ _ e).1).1 (fun z => by have := e.1; rw [W.new b z] at this; cases this) (hext.kept b o e).1, e.2⟩, fun ps t => by obtain ⟨m, t⟩ := hext.tab ps t; obtain ⟨m', t⟩ := ht₁ _ t; exact ⟨m ++ m', by rw [← Array.append_assoc]; exact t⟩⟩
        have hacc₁ : s₁.heap.PlainList D ys.toArray := by obtain ⟨n', e⟩ := hacc'; exact ⟨n', hk₁' _ _ hDC hDw e⟩
        have hL₁ : Live Y s₁.heap := hYl _ _ hext₁ hst₁' ⟨_, hacc₁⟩
        have hrow : RdL Y s₁.heap vs (row a) := by
          refine RdL.ext hext₁ ⟨hvs.1, fun i v d x y => (hvs.2 i v d x y).away hYw⟩
        obtain ⟨pl1, pl2⟩ := puts_look xs vs μ hvl hnd
        have hloc₁ : Loc cenv Y s₁.heap (xs.zip (row a) ++ caps cl ρ) := by
          refine ⟨⟨_, G₁, fun q hq => ?_⟩⟩
          rcases List.mem_append.mp hq with hq | hq
          · exact knows_zip hrow pl1 q hq
          · obtain ⟨hq1, hq2⟩ := List.mem_filter.mp hq
            obtain ⟨v, e, r⟩ := Ke q hq1
            refine ⟨v, ?_, ((r.ext hh₁).away hYw).ext hext₁⟩
            rw [pl2 _ (hcx _ hq2), hμ _ hq2]; exact e
        obtain ⟨hif, hel⟩ := hbody a hmem C Y s₁.heap (fun b hb => .inl hb) (hh₁.trans hext₁) hL₁ hloc₁
        have hkeep₁ : ∀ b o, ¬ wr b → Sg s.heap b o → Sg s₁.heap b o := fun b o nw e => ⟨hk₁' b o (hnotL b o e.1).1 nw (hkeep b o nw e).1, e.2⟩
        have htab₁ : ∀ ps, TabAt s.heap ps → ∃ more, TabAt s₁.heap (ps ++ more) := fun ps t => by obtain ⟨m, t⟩ := htab ps t; obtain ⟨m', t⟩ := ht₁ _ t; exact ⟨m ++ m', by rw [← Array.append_assoc]; exact t⟩
        have hys₁ : RdL Y s₁.heap ys (((items.take i).filter p).map F) := hys.mono fun b o nb e sq => hq₁ b o (fun z => nb (.inr (.inl z))) e sq
        refine hif.now (At.here hL₁) fun s₂ k₂ => ?_
        obtain ⟨h₂, t₂, e₂, kk₂⟩ := k₂
        obtain ⟨hh₁', tt₁, es₁⟩ := hsame₁
        cases hp : p a with
        | false =>
          simp only [Bool.false_eq_true, if_false]
          refine ⟨items.length + 1 - (i + 1), by omega, i + 1, ys, puts μ xs vs, rfl, hia, ⟨h₂, t₂, by rw [e₂, es₁, hsame]⟩, ?_, ?_, ?_, ?_, ?_, ?_, ?_, ?_⟩
          · exact W.frame _ _ _ hst₁' fun b o _ e => by rw [e₂]; exact kk₂.kept b o e
          · obtain ⟨n', e⟩ := hacc₁; exact ⟨n', by rw [e₂]; exact kk₂.get e (solid_cls rfl)⟩
          · rw [take_succ_filter p _ i a ha, hp]
            simpa using hys₁.ext (by rw [e₂]; exact kk₂)
          · exact G₁.ext (by rw [e₂]; exact kk₂)
          · exact fun x hx => (pl2 x (hcx x hx)).trans (hμ x hx)
          · exact hext₁.trans (by rw [e₂]; exact kk₂)
          · exact fun b o nw e => by rw [e₂]; exact kk₂.kept b o (hkeep₁ b o nw e)
          · exact fun ps t => by
              obtain ⟨m, t⟩ := htab₁ ps t; obtain ⟨m', t⟩ := kk₂.tab _ t
              exact ⟨m ++ m', by rw [e₂, ← Array.append_assoc]; exact t⟩
        | true =>
          simp only [if_true]
          have k₂ : Kp s₁ s₂ := ⟨h₂, t₂, e₂, kk₂⟩
          refine Gv.now (hel hp) ((At.here hL₁).go k₂.ext) fun y s₄ ry k₄ => ?_
          obtain ⟨n', ea⟩ := hacc₁
          have ea₄ : s₄.heap.get? D = _ := k₄.ext.get (k₂.ext.get ea (solid_cls rfl)) (solid_cls rfl)
          have hys' : ys.length ≤ sizeLine := by
            have e1 := hys.1
            rw [List.length_map] at e1
            have e2 : ((items.take i).filter p).length ≤ (items.take i).length := List.length_filter_le _ _
            have e3 : (items.take i).length ≤ i := by rw [List.length_take]; omega
            omega
          have kk : Kp s₁ s₄ := k₂.trans k₄
          obtain ⟨h₄, t₄, e₄, kk₄⟩ := kk
          refine wpAny_list_append_plain (hsz := by simpa using hys') ⟨n', ea₄⟩ fun h₅ hl₅ hs₅ => ?_
          have q₅ : ∀ b o, b ≠ D → Sg s₁.heap b o → Sg h₅ b o := fun b o nd e => ⟨(hs₅.2 b nd).trans (by rw [e₄]; exact (kk₄.kept b o e).1), e.2⟩
          have t₅ : ∀ ps, TabAt s₁.heap ps → ∃ more, TabAt h₅ (ps ++ more) := fun ps t => by
            obtain ⟨m, t⟩ := kk₄.tab ps t
            have t' : TabAt s₄.heap (ps ++ m) := by rw [e₄]; exact t
            obtain ⟨m', t⟩ := Ext.tabBut (h := s₄.heap) (h' := h₅) ea₄ (solid_cls rfl) (by nofun) (fun b o nd e => (hs₅.2 b nd).trans e) _ t'
            exact ⟨m ++ m', by rw [← Array.append_assoc]; exact t⟩
          have sq₅ : SeqExt Y s₁.heap h₅ := fun b o nb e ⟨_, _, d⟩ => (q₅ b o (fun z => nb (.inr (.inr z))) ⟨e, solid_seq d⟩).1
          refine ⟨items.length + 1 - (i + 1), by omega, i + 1, ys ++ [y], puts μ xs vs, rfl, hia, ⟨h₅, t₄, by rw [e₄, es₁, hsame]⟩, ?_, ?_, ?_, ?_, ?_, ?_, ?_, ?_⟩
          · exact W.frame _ _ _ hst₁' fun b o hb e => q₅ b o (fun z => hDf (z ▸ hb)) e
          · have : (ys ++ [y]).toArray = ys.toArray.push y := by simp
            rw [this]; exact hl₅
          · rw [take_succ_filter p _ i a ha, hp]
            simp only [if_true, List.map_append, List.map_cons, List.map_nil]
            refine (hys₁.mono sq₅).append (.cons ?_ .nil)
            exact ry.mono fun b o nb e _ => (hs₅.2 b (fun z => nb (.inr (.inr z)))).trans e
          · obtain ⟨m, n, em⟩ := G₁.ns
            refine ⟨⟨m, (by obtain ⟨o, es, ep, e, d, r⟩ := n; exact ⟨o, es, ep, (q₅ _ o (fun z => hDC z.symm) ⟨e, solid_dict d⟩).1, d, r⟩), em⟩, fun x c hx hc => ?_⟩
            obtain ⟨o, e, d⟩ := G₁.cell x c hx hc
            refine ⟨o, (q₅ c o (fun z => ?_) ⟨e, solid_cell d⟩).1, d⟩
            obtain ⟨o', v', e', d'⟩ := hcells x c hc
            exact (hnotL c o' ((hh₁.trans hs).get e' (solid_cell d'))).2 z
          · exact fun x hx => (pl2 x (hcx x hx)).trans (hμ x hx)
          · exact ⟨fun b o e => q₅ b o (hnotL b o (hs.kept _ _ e).1).2 (hext₁.kept b o e), fun ps t => by
              obtain ⟨m, t⟩ := hext₁.tab ps t; obtain ⟨m', t⟩ := t₅ _ t
              exact ⟨m ++ m', by rw [← Array.append_assoc]; exact t⟩⟩
          · exact fun b o nw e => q₅ b o (hnotL b o e.1).2 (hkeep₁ b o nw e)
          · exact fun ps t => by
              obtain ⟨m, t⟩ := htab₁ ps t; obtain ⟨m', t⟩ := t₅ _ t
              exact ⟨m ++ m', by rw [← Array.append_assoc]; exact t⟩
    · have hc' : (cl.lookup x).isSome = true := by rw [show cl.lookup x = some c from hc]; rfl
      obtain ⟨e1, e2, _⟩ := hcap _ (PySem.mem_of_lookup hc)
      rw [if_neg (hnl x hc')]
      exact IsCell.ext (hh₁.trans (hs.trans (.of old))) (Ge.cell x c e2 e1)
  exact codeAny_compStart_list (loop _ rfl) (W.self 0 _ _ _ hst₁ (loop _ rfl))
end
end Mine
end
section
open PySem PySem.W PyProof.Rows
set_option Elab.async false
set_option linter.unusedVariables false
namespace Mine
section
variable {prog : Program} {w : World} {A : Around} {env : Env} {X : Addr → Prop} {h : Heap} {s : Shared} {E : Value → Shared → Prop}
structure CompOk (env : Env) (iter : Expr) (scope : Scope) (xs : List Str) (cl : List (Str × Addr)) : Prop where
  fold : ∀ x, foldedSetIterable iter env x = pure x
  clos : closureFor scope env = pure cl
  kind : scope.kind = .function
  names : ∀ x ∈ scope.names, x.2 = .local → scope.names.lookup x.1 = some .local
  cell : ∀ y ∈ scope.names, y.2 ≠ .cell
  loc : ∀ x ∈ xs, scope.names.lookup x = some .local
  nodup : xs.Nodup
  cap : ∀ q ∈ cl, env.cells.lookup q.1 = some q.2 ∧ (env.kindOf q.1 = some .cell ∨ env.kindOf q.1 = some .free) ∧ scope.names.lookup q.1 ≠ some .local ∧ ((relabel scope env).names.lookup q.1 = some .cell ∨ (relabel scope env).names.lookup q.1 = some .free)
  inj : ∀ x y c, cl.lookup x = some c → cl.lookup y = some c → x = y
theorem tab_trans {a b c : Heap} (x : ∀ ps, TabAt a ps → ∃ more, TabAt b (ps ++ more)) (y : ∀ ps, TabAt b ps → ∃ more, TabAt c (ps ++ more)) : ∀ ps, TabAt a ps → ∃ more, TabAt c (ps ++ more) := fun ps t => by
  obtain ⟨m, t⟩ := x ps t
  obtain ⟨m', t⟩ := y _ t
  exact ⟨m ++ m', by rw [← Array.append_assoc]; exact t⟩
theorem comp_gen {α : Type} {elt target iter : Expr} {ifs : List Expr} {scope : Scope} {pos : Pos} {cl : List (Str × Addr)} {xs : List Str} {ρ : List (Str × Dat)} {use : Option (Value → Sem Unit)} {Q : Value → Shared → Prop}
    (items : List α) (row : α → List Dat) (p : α → Bool) (F : α → Dat) (k : At X h s.heap) (hsrc : Src prog w A env X h iter target xs (items.map row)) (L : Loc env X h ρ) (hX : Live X h) (C : CompOk env iter scope xs cl)
    (hlen : ∀ a ∈ items, (row a).length = xs.length) (hsz : items.length ≤ sizeLine)
    (hbody : ∀ a ∈ items, ∀ (C : Addr) (Y : Addr → Prop) (h' : Heap), (∀ b, X b → Y b) → Ext h h' → Live Y h' → Loc (compEnvC scope cl C env) Y h' (xs.zip (row a) ++ caps cl ρ) →
      Ifs prog w A (compEnvC scope cl C env) Y h' ifs (p a) ∧ (p a = true → EV prog w A (compEnvC scope cl C env) Y h' elt (F a)))
    (hQ : ∀ D C' s' m', (∀ b o, Sg s.heap b o → b ≠ C') → ¬ X C' → s'.heap.Ns C' m' → Rd X s'.heap (.ref D) (.list ((items.filter p).map F)) → Kp s s' → compPost (model prog w) A E use Q (.ref D) C' (.ok .next) s') :
    wpAny (model prog w) A (comprehension (.ListComp elt [⟨target, iter, ifs, 0⟩] scope pos) scope env (firstIterPos [⟨target, iter, ifs, 0⟩] pos) (newList []) false (eval iter env) use) Q E s := by
  refine wpAny_comprehension_free rfl C.fold C.clos C.kind C.names ?_
  refine wpAny_mono (hsrc s E k) (fun v s₁ q => ?_) fun _ _ e => e
  refine wpAny_mono q (fun it s₂ q => ?_) fun _ _ e => e
  obtain ⟨k₂, h₁, I, fp, wr, St, rfl, x₁, x₂, W, hst, hfp⟩ := q
  refine comp_core items row p F W hst hfp (k.ext.trans x₁) x₂ hX L C.cell C.kind C.loc C.nodup C.cap C.inj hlen hsz hbody fun D C' s' ys m' hD hC hDC hns hs' hext hkeep htab hpl hrd => ?_
  have live₂ : Live X s₂.heap := k.live.ext k₂.ext
  refine hQ D C' s' m' (fun b o e z => ?_) (fun z => ?_) hns (.ofList (fun z => ?_) hpl hrd) ?_
  · have := (k₂.ext.kept _ _ e).1
    rw [z, hC] at this; cases this
  · obtain ⟨o, e, _⟩ := live₂.live _ z
    rw [hC] at e; cases e
  · obtain ⟨o, e, _⟩ := live₂.live _ z
    rw [hD] at e; cases e
  · obtain ⟨h₂', t₂, e₂, k₂'⟩ := k₂
    obtain ⟨h', tk, e'⟩ := hs'
    refine ⟨h', tk, by rw [e', e₂], ?_⟩
    have e3 : s'.heap = h' := by rw [e']
    rw [← e3]
    exact x₁.trans hext
theorem EV.comp {α : Type} {elt target iter : Expr} {ifs : List Expr} {scope : Scope} {pos : Pos} {cl : List (Str × Addr)} {xs : List Str} {ρ : List (Str × Dat)}
    (items : List α) (row : α → List Dat) (p : α → Bool) (F : α → Dat) (hsrc : Src prog w A env X h iter target xs (items.map row)) (L : Loc env X h ρ) (hX : Live X h) (C : CompOk env iter scope xs cl)
    (hlen : ∀ a ∈ items, (row a).length = xs.length) (hsz : items.length ≤ sizeLine)
    (hbody : ∀ a ∈ items, ∀ (C : Addr) (Y : Addr → Prop) (h' : Heap), (∀ b, X b → Y b) → Ext h h' → Live Y h' → Loc (compEnvC scope cl C env) Y h' (xs.zip (row a) ++ caps cl ρ) →
      Ifs prog w A (compEnvC scope cl C env) Y h' ifs (p a) ∧ (p a = true → EV prog w A (compEnvC scope cl C env) Y h' elt (F a))) :
    EV prog w A env X h (.ListComp elt [⟨target, iter, ifs, 0⟩] scope pos) (.list ((items.filter p).map F)) := fun s E k => by
  rw [eval_ListComp]
  refine comp_gen (use := Option.none) items row p F k hsrc L hX C hlen hsz hbody fun D C' s' m' hf hC hn r ks => ?_
  refine ⟨m', hn, fun h'' hs'' => ⟨r.mono (seqExt_of_ns hn hs''), ?_⟩⟩
  obtain ⟨h₁, t₁, e₁, k₁⟩ := ks
  refine ⟨h'', s'.toks, by rw [e₁], ?_⟩
  have e2 : s'.heap = h₁ := by rw [e₁]
  exact ⟨fun b o e => ⟨(hs''.2 b (hf b o e)).trans (by rw [e2]; exact (k₁.kept b o e).1), e.2⟩, tab_trans (e2 ▸ k₁.tab) (tab_of_ns hn hs'')⟩
theorem FS.sameBut {μ : Str → Option Value} {h h' : Heap} {C : Addr} (F : FS env h μ) (hs : Heap.SameBut C h h') (h1 : env.locals ≠ C) (h2 : ∀ x c, (env.kindOf x = some .cell ∨ env.kindOf x = some .free) → env.cells.lookup x = some c → c ≠ C) : FS env h' μ := by
  obtain ⟨m, n, e⟩ := F.ns
  exact ⟨⟨m, n.sameBut hs h1, e⟩, fun x c hx hc => (F.cell x c hx hc).sameBut hs (h2 x c hx hc)⟩
theorem ex_assign_comp {α : Type} {elt target iter : Expr} {ifs : List Expr} {scope : Scope} {pos spos : Pos} {cl : List (Str × Addr)} {xs : List Str} {ρ ρ' : List (Str × Dat)} {x : Str} {px : Pos} {s₀ : Shared} {rest : List Stmt} {Q : Flow → Shared → Prop}
    (items : List α) (row : α → List Dat) (p : α → Bool) (F : α → Dat) {M : Addr → Prop} (O : EnvOk env) (Fr : Fm env X M s₀ s ρ) (hsrc : Src prog w A env X s.heap iter target xs (items.map row)) (L : Loc env X s.heap ρ') (C : CompOk env iter scope xs cl)
    (hlen : ∀ a ∈ items, (row a).length = xs.length) (hsz : items.length ≤ sizeLine)
    (hbody : ∀ a ∈ items, ∀ (C : Addr) (Y : Addr → Prop) (h' : Heap), (∀ b, X b → Y b) → Ext s.heap h' → Live Y h' → Loc (compEnvC scope cl C env) Y h' (xs.zip (row a) ++ caps cl ρ') →
      Ifs prog w A (compEnvC scope cl C env) Y h' ifs (p a) ∧ (p a = true → EV prog w A (compEnvC scope cl C env) Y h' elt (F a)))
    (hsw : swapsWith (.ListComp elt [⟨target, iter, ifs, 0⟩] scope pos) (some (.Name x px)) spos.line env = pure true) (hx : Sto env x)
    (k : ∀ s', Fm env X M s₀ s' ((x, .list ((items.filter p).map F)) :: drop x ρ) → Stp env M s s' → wpAny (model prog w) A (execs rest env) Q E s') :
    wpAny (model prog w) A (execs (.Assign [.Name x px] (.ListComp elt [⟨target, iter, ifs, 0⟩] scope pos) spos :: rest) env) Q E s := by
  refine wpAny_execs_cons ?_
  rw [exec_Assign_Name_used _ _ _ _ hsw]
  refine wpAny_bind (wpAny_standAt (wpAny_bind ?_))
  show wpAny _ A (do let _ ← comprehension (.ListComp elt [⟨target, iter, ifs, 0⟩] scope pos) scope env _ (newList []) false (eval iter env) (some (assign (.Name x px) env))) _ _ s
  refine wpAny_bind (wpAny_mono (comp_gen (use := some (assign (.Name x px) env)) (Q := fun _ s' => wpAny (model prog w) A (execs rest env) Q E s') items row p F Fr.at hsrc L Fr.live C hlen hsz hbody fun D C' s' m' hf hC hn r ks => ?_)
    (fun _ s' hq => wpAny_pure (wpAny_pure hq)) fun _ _ e => e)
  show wpAny _ A (assign (.Name x px) env (.ref D)) _ _ _
  obtain ⟨μ, G, K⟩ := Fr.loc.st
  have hlC : env.locals ≠ C' := by
    obtain ⟨m, n, _⟩ := G.ns
    obtain ⟨o, es, ep, e, d, _⟩ := n
    exact hf _ o ⟨e, solid_dict d⟩
  have hcC : ∀ x c, (env.kindOf x = some .cell ∨ env.kindOf x = some .free) → env.cells.lookup x = some c → c ≠ C' := fun x c h1 h2 => by
    obtain ⟨o, e, d⟩ := G.cell x c h1 h2
    exact hf _ o ⟨e, solid_cell d⟩
  have htC : ¬ Tgt env x C' := fun z => by
    rcases z with ⟨_, z⟩ | ⟨z1, z2⟩
    · exact hlC z.symm
    · exact hcC x C' (.inl z1) z2 rfl
  obtain ⟨h₁, t₁, e₁, k₁⟩ := id ks
  have F' := Fr.kp ks
  obtain ⟨μ', G', K'⟩ := F'.loc.st
  refine wpAny_assign_Name (Mine.store O G' hx fun h' tk G'' kq kk kt => ?_)
  have hn' : h'.Ns C' m' := by
    obtain ⟨o, es, ep, e, d, q⟩ := hn
    exact ⟨o, es, ep, kk _ _ htC e, d, q⟩
  refine ⟨m', hn', fun h'' hs'' => ?_⟩
  have sq : SeqExt Ø s'.heap h'' := kq.trans (seqExt_of_ns hn' hs'')
  have st : Stp env M s { s' with heap := h'', toks := tk } := by
    refine ⟨ks.ext.seq.trans (sq.weak fun _ z => z.elim), fun b o nb _ e => ?_, tab_trans ks.ext.tab (tab_trans kt (tab_of_ns hn' hs''))⟩
    have e1 := ks.ext.kept b o e
    exact ⟨(hs''.2 b (hf b o e)).trans (kk b o (fun z => nb z.own) e1.1), e.2⟩
  refine k _ ⟨⟨_, G''.sameBut hs'' hlC hcC, (K'.mono (sq.weak fun _ z => z.elim)).put (r.mono (sq.weak fun _ z => z.elim))⟩, ?_, Fr.apart, ?_, Fr.own⟩ st
  · obtain ⟨h₀, t₀, e₀, k₀⟩ := id Fr.same
    exact ⟨h'', tk, by rw [e₁, e₀], st.ext Fr.same.ext Fr.apart⟩
  · refine ⟨fun b z => ?_, ?_⟩
    · obtain ⟨o, e⟩ := F'.live.live b z
      obtain ⟨o', e'⟩ := Fr.live.live b z
      exact ⟨o, (hs''.2 b (hf b o' e')).trans (kk b o (fun q => Fr.own b z q.own) e.1), e.2⟩
    · obtain ⟨ps, t⟩ := F'.live.tab
      obtain ⟨m, t⟩ := tab_trans kt (tab_of_ns hn' hs'') ps t
      exact ⟨_, t⟩
end
end Mine
end
section
open PySem PySem.W PyProof.Rows
set_option Elab.async false
set_option linter.unusedVariables false
namespace Mine
section
variable {prog : Program} {w : World} {A : Around} {env : Env} {X : Addr → Prop} {h : Heap} {s : Shared} {E : Value → Shared → Prop}
structure Hop (n : Nat) (h h' : Heap) : Prop where
  kept : ∀ b o, b < n → h.get? b = some o → h'.get? b = some o
theorem draw_walk {I : Addr} {fp wr : List Addr} {n : Nat} {P : Nat → Value → Prop} {St : Nat → Heap → Prop} (W : Walks prog w A I fp wr n P St) : ∀ (m i : Nat) (s : Shared) (Q : List Value → Shared → Prop), i + m ≤ n → St i s.heap →
    (∀ vs h' tk, vs.length = m → (∀ j v, vs[j]? = some v → P (i + j) v) → St (i + m) h' → (∀ b o, b ∉ wr → s.heap.get? b = some o → h'.get? b = some o) → Q vs { s with heap := h', toks := tk }) → wpAny (model prog w) A (draw (.ref I) m) Q E s
  | 0, i, s, Q, hi, hst, hQ => wpAny_pure (hQ [] s.heap s.toks rfl (fun j v e => by simp at e) (by simpa using hst) fun _ _ _ e => e)
  | m + 1, i, s, Q, hi, hst, hQ => by
    refine wpAny_bind (W.item i s _ E (by omega) hst fun v h' tk hp st' k => ?_)
    refine wpAny_bind (wpAny_holding (draw_walk W m (i + 1) _ _ (by omega) st' fun vs h'' tk' hl hP st'' k' => ?_))
    refine wpAny_pure (hQ (v :: vs) h'' tk' (by simp [hl]) (fun j u e => ?_) (by rw [show i + (m + 1) = i + 1 + m by omega]; exact st'') fun b o hb e => k' b o hb (k b o hb e))
    cases j with
    | zero => simp only [List.getElem?_cons_zero, Option.some.injEq] at e; subst e; exact hp
    | succ j => rw [show i + (j + 1) = i + 1 + j by omega]; exact hP j u (by simpa using e)
theorem unpack_list {l : Addr} {items : Array Value} {Q : List Value → Shared → Prop} (hh : A.handled = none) (hl : s.heap.IsList l items)
    (hQ : ∀ h' tk, (∀ b o, s.heap.get? b = some o → h'.get? b = some o) → Q items.toList { s with heap := h', toks := tk }) : wpAny (model prog w) A (unpackItems (.ref l) items.size none) Q E s := by
  unfold unpackItems
  refine wpAny_bind ?_
  unfold notIterableAtAll
  refine wpAny_bind (wpAny_specialOf hl.typeIs slot_list_iter.lookup ?_)
  refine wpAny_pure ?_
  simp only [Bool.false_eq_true, if_false]
  refine wpAny_bind (wpAny_holding (iter_list hl fun s₂ e2 st hfp hne => ?_))
  subst e2
  have W := Walks.list (prog := prog) (w := w) (A := A) hh s.heap.objs.size l hne items
  refine wpAny_bind (wpAny_holding (draw_walk W items.size 0 _ _ (by omega) st fun vs h' tk hlen hP st' k => ?_))
  have hv : vs = items.toList := by
    apply List.ext_getElem?
    intro j
    by_cases hj : j < vs.length
    · have := hP j vs[j] (List.getElem?_eq_getElem hj)
      rw [Nat.zero_add] at this
      rw [List.getElem?_eq_getElem hj, Array.getElem?_toList, this]
    · rw [List.getElem?_eq_none (by omega), List.getElem?_eq_none (by simp; omega)]
  have hlt : ¬ vs.length < items.size := by omega
  simp only [hlt, if_false]
  rw [Nat.zero_add] at st'
  refine wpAny_bind (wpAny_holding (W.done _ _ _ st' fun h'' tk' k' => ?_))
  simp only [Option.isSome_none, Bool.false_eq_true, if_false]
  rw [hv]
  refine wpAny_pure (hQ h'' tk' fun b o e => ?_)
  have hb : b ∉ [s.heap.objs.size] := by
    intro q
    have := Heap.lt_size e
    rw [List.mem_singleton.mp q] at this
    exact Nat.lt_irrefl _ this
  exact k' b o hb (k b o hb (Heap.get?_push_of_some _ e))
noncomputable def Asg (prog : Program) (w : World) (A : Around) (target : Expr) (xs : List Str) (X : Addr → Prop) (d : Dat) (row : List Dat) : Prop :=
  ∀ (env : Env) (μ : Str → Option Value) (s : Shared) (E : Value → Shared → Prop) (Q : Shared → Prop) (v : Value) (h₁ : Heap), Ext h₁ s.heap → EnvOk env → FS env s.heap μ → (∀ x ∈ xs, Sto env x) → Rd X h₁ v d →
    (∀ (s' : Shared) (vs : List Value), RdL X h₁ vs row → vs.length = xs.length → FS env s'.heap (puts μ xs vs) → (∃ h' tk, s' = { s with heap := h', toks := tk }) → (∀ b o, (∀ x ∈ xs, ¬ Tgt env x b) → s.heap.get? b = some o → s'.heap.get? b = some o) →
      (∀ b o, s.heap.get? b = some o → (∃ items n, o.data = .seq items n) → s'.heap.get? b = some o) → (∀ ps, TabAt s.heap ps → ∃ more, TabAt s'.heap (ps ++ more)) → Q s') →
    wpAny (model prog w) A (assign target env v) (fun _ s' => Q s') E s
theorem Asg.name {x : Str} {px : Pos} {d : Dat} : Asg prog w A (.Name x px) [x] X d [d] := by
  intro env μ s E Q v h₁ hext O F hx r hQ
  refine wpAny_assign_Name (Mine.store O F (hx x (.head _)) fun h' tk F' k kk kt => ?_)
  exact hQ _ [v] (.cons r .nil) rfl F' ⟨h', tk, rfl⟩ (fun b o nb e => kk b o (nb x (.head _)) e) (fun b o e q => k b o (fun z => z) e q) kt
noncomputable def namesOf : List Expr → Option (List Str)
  | [] => some []
  | .Name x _ :: es => (namesOf es).map (x :: ·)
  | _ => none
theorem stores_names {env : Env} : ∀ {es : List Expr} {xs : List Str} {μ : Str → Option Value} {s : Shared} {vs : List Value} {E : Value → Shared → Prop} {Q : Shared → Prop}, namesOf es = some xs → EnvOk env → FS env s.heap μ → (∀ x ∈ xs, Sto env x) → vs.length = xs.length →
    (∀ s', FS env s'.heap (puts μ xs vs) → (∃ h' tk, s' = { s with heap := h', toks := tk }) → (∀ b o, (∀ x ∈ xs, ¬ Tgt env x b) → s.heap.get? b = some o → s'.heap.get? b = some o) →
      (∀ b o, s.heap.get? b = some o → (∃ items n, o.data = .seq items n) → s'.heap.get? b = some o) → (∀ ps, TabAt s.heap ps → ∃ more, TabAt s'.heap (ps ++ more)) → Q s') →
    wpAny (model prog w) A (assignInOrder ((assignEach es env).map (·.2)) vs) (fun _ s' => Q s') E s
  | [], xs, μ, s, vs, E, Q, hn, O, F, hx, hl, hQ => by
    simp only [namesOf, Option.some.injEq] at hn
    subst hn
    cases vs with
    | nil => exact assignInOrder_nil (hQ s F ⟨_, _, rfl⟩ (fun b o _ e => e) (fun b o e _ => e) (Ext.refl _).tab)
    | cons _ _ => simp at hl
  | .Name x px :: es, xs, μ, s, vs, E, Q, hn, O, F, hx, hl, hQ => by
    simp only [namesOf, Option.map_eq_some_iff] at hn
    obtain ⟨ys, hys, rfl⟩ := hn
    cases vs with
    | nil => simp at hl
    | cons v vs =>
      show wpAny _ _ (assignInOrder (assign (.Name x px) env :: (assignEach es env).map (·.2)) (v :: vs)) _ _ _
      refine assignInOrder_cons (wpAny_assign_Name (Mine.store O F (hx x (.head _)) fun h' tk F' k kk kt => ?_))
      refine stores_names (s := { s with heap := h', toks := tk }) hys O F' (fun y hy => hx y (.tail _ hy)) (by simpa using hl) fun s' F'' hs' k' q' t' => ?_
      obtain ⟨h'', tk', hs'⟩ := hs'
      exact hQ s' F'' ⟨h'', tk', hs'⟩ (fun b o nb e => k' b o (fun y hy => nb y (.tail _ hy)) (kk b o (nb x (.head _)) e)) (fun b o e q => q' b o (k b o (fun z => z) e q) q) (tab_trans kt t')
  | .BoolOp .. :: _, xs, μ, s, vs, E, Q, hn, O, F, hx, hl, hQ => by cases hn
  | .NamedExpr .. :: _, xs, μ, s, vs, E, Q, hn, O, F, hx, hl, hQ => by cases hn
  | .BinOp .. :: _, xs, μ, s, vs, E, Q, hn, O, F, hx, hl, hQ => by cases hn
  | .UnaryOp .. :: _, xs, μ, s, vs, E, Q, hn, O, F, hx, hl, hQ => by cases hn
  | .Lambda .. :: _, xs, μ, s, vs, E, Q, hn, O, F, hx, hl, hQ => by cases hn
  | .IfExp .. :: _, xs, μ, s, vs, E, Q, hn, O, F, hx, hl, hQ => by cases hn
  | .Dict .. :: _, xs, μ, s, vs, E, Q, hn, O, F, hx, hl, hQ => by cases hn
  | .Set .. :: _, xs, μ, s, vs, E, Q, hn, O, F, hx, hl, hQ => by cases hn
  | .ListComp .. :: _, xs, μ, s, vs, E, Q, hn, O, F, hx, hl, hQ => by cases hn
  | .SetComp .. :: _, xs, μ, s, vs, E, Q, hn, O, F, hx, hl, hQ => by cases hn
  | .DictComp .. :: _, xs, μ, s, vs, E, Q, hn, O, F, hx, hl, hQ => by cases hn
  | .GeneratorExp .. :: _, xs, μ, s, vs, E, Q, hn, O, F, hx, hl, hQ => by cases hn
  | .Await .. :: _, xs, μ, s, vs, E, Q, hn, O, F, hx, hl, hQ => by cases hn
  | .Yield .. :: _, xs, μ, s, vs, E, Q, hn, O, F, hx, hl, hQ => by cases hn
  | .YieldFrom .. :: _, xs, μ, s, vs, E, Q, hn, O, F, hx, hl, hQ => by cases hn
  | .Compare .. :: _, xs, μ, s, vs, E, Q, hn, O, F, hx, hl, hQ => by cases hn
  | .Call .. :: _, xs, μ, s, vs, E, Q, hn, O, F, hx, hl, hQ => by cases hn
  | .FormattedValue .. :: _, xs, μ, s, vs, E, Q, hn, O, F, hx, hl, hQ => by cases hn
  | .JoinedStr .. :: _, xs, μ, s, vs, E, Q, hn, O, F, hx, hl, hQ => by cases hn
  | .Constant .. :: _, xs, μ, s, vs, E, Q, hn, O, F, hx, hl, hQ => by cases hn
  | .Attribute .. :: _, xs, μ, s, vs, E, Q, hn, O, F, hx, hl, hQ => by cases hn
  | .Subscript .. :: _, xs, μ, s, vs, E, Q, hn, O, F, hx, hl, hQ => by cases hn
  | .Starred .. :: _, xs, μ, s, vs, E, Q, hn, O, F, hx, hl, hQ => by cases hn
  | .List .. :: _, xs, μ, s, vs, E, Q, hn, O, F, hx, hl, hQ => by cases hn
  | .Tuple .. :: _, xs, μ, s, vs, E, Q, hn, O, F, hx, hl, hQ => by cases hn
  | .Slice .. :: _, xs, μ, s, vs, E, Q, hn, O, F, hx, hl, hQ => by cases hn
theorem namesOf_length : ∀ {es : List Expr} {xs : List Str}, namesOf es = some xs → ∀ env, (assignEach es env).length = xs.length ∧ (assignEach es env).findIdx? (·.1) = none
  | [], xs, hn, env => by simp only [namesOf, Option.some.injEq] at hn; subst hn; exact ⟨rfl, rfl⟩
  | e :: es, xs, hn, env => by
    cases e <;> try (cases hn; done)
    rename_i x px
    simp only [namesOf, Option.map_eq_some_iff] at hn
    obtain ⟨ys, hys, rfl⟩ := hn
    obtain ⟨h1, h2⟩ := namesOf_length hys env
    refine ⟨by show (assignEach es env).length + 1 = _; rw [h1]; rfl, ?_⟩
    show List.findIdx? _ ((false, assign (.Name x px) env) :: assignEach es env) = none
    rw [List.findIdx?_cons, h2]; rfl
theorem Asg.list {es : List Expr} {k : Nat} {pos : Pos} {xs : List Str} {ds : List Dat} (hh : A.handled = none) (hn : namesOf es = some xs) (hl : ds.length = xs.length) : Asg prog w A (.Tuple es k pos) xs X (.list ds) ds := by
  intro env μ s E Q v h₁ hext O F hx r hQ
  obtain ⟨a, vs, rfl, hxa, hpl, y⟩ := r.list_inv
  have hpl := plainExt hpl hext
  obtain ⟨h1, h2⟩ := namesOf_length hn env
  rw [arm_assign_Tuple]
  refine wpAny_bind (wpAny_standAt ?_)
  unfold unpack
  have e : (assignEach es env).length = vs.toArray.size := by rw [h1, List.size_toArray, y.1, hl]
  rw [e, h2]
  refine wpAny_bind (wpAny_holding (unpack_list hh hpl.isList fun h' tk k => ?_))
  refine stores_names (s := { s with heap := h', toks := tk }) hn O (F.ext (.of k)) hx (by show vs.length = _; rw [y.1, hl]) fun s' F'' hs' k' q' t' => ?_
  obtain ⟨h'', tk', hs'⟩ := hs'
  exact hQ s' vs y (by rw [y.1, hl]) F'' ⟨h'', tk', hs'⟩ (fun b o nb e => k' b o nb (k b o e)) (fun b o e q => q' b o (k b o e) q) (tab_trans (Ext.of k).tab t')
theorem Asg.tup {es : List Expr} {k : Nat} {pos : Pos} {xs : List Str} {ds : List Dat} (hh : A.handled = none) (hn : namesOf es = some xs) (hl : ds.length = xs.length) : Asg prog w A (.Tuple es k pos) xs X (.tup ds) ds := by
  intro env μ s E Q v h₁ hext O F hx r hQ
  obtain ⟨a, vs, rfl, hxa, hpl, y⟩ := r.tup_inv
  have hpl : PlainTup s.heap a vs.toArray := hext.get hpl (solid_cls rfl)
  obtain ⟨h1, h2⟩ := namesOf_length hn env
  have e : (assignEach es env).length = vs.toArray.size := by rw [h1, List.size_toArray, y.1, hl]
  refine assign_Tuple_tuple hh (t := a) (items := vs.toArray) ⟨_, hpl, rfl, 0, rfl⟩ e h2 fun h' hk => ?_
  have k : ∀ b o, s.heap.get? b = some o → h'.get? b = some o := fun b o e => hk b o (Nat.ne_of_lt (Heap.lt_size e)) e
  refine stores_names (s := { s with heap := h' }) hn O (F.ext (.of k)) hx (by show vs.length = _; rw [y.1, hl]) fun s' F'' hs' k' q' t' => ?_
  obtain ⟨h'', tk', hs'⟩ := hs'
  exact hQ s' vs y (by rw [y.1, hl]) F'' ⟨h'', tk', hs'⟩ (fun b o nb e => k' b o nb (k b o e)) (fun b o e q => q' b o (k b o e) q) (tab_trans (Ext.of k).tab t')
end
end Mine
end
section
open PySem PySem.W PyProof.Rows
set_option Elab.async false
set_option linter.unusedVariables false
namespace Mine
section
variable {prog : Program} {w : World} {A : Around} {env : Env} {X : Addr → Prop} {h : Heap} {s : Shared} {E : Value → Shared → Prop}
theorem tab_wr {h h' : Heap} {wr : List Addr} (live : ∀ b ∈ wr, ∃ o, Sg h b o ∧ Itd o) (k : ∀ b o, b ∉ wr → h.get? b = some o → h'.get? b = some o) : ∀ ps, TabAt h ps → ∃ more, TabAt h' (ps ++ more) := fun ps t => ⟨#[], by
  rw [Array.append_empty]
  refine ⟨k _ _ (fun q => ?_) t.get, t.ok, fun pos cv e => ?_⟩
  · obtain ⟨o, e, _⟩ := live _ q
    exact Sg.ne e t.get rfl
  · obtain ⟨c, o, vs, u, e1, ⟨e2, e5⟩, e3, e4⟩ := t.code pos cv e
    refine ⟨c, o, vs, u, e1, ⟨k _ _ (fun q => ?_) e2, e5⟩, e3, e4⟩
    obtain ⟨o', ⟨e6, _⟩, i⟩ := live _ q
    rw [e2] at e6; cases e6
    rcases i with ⟨_, _, i⟩ | ⟨us, i, j⟩
    · rw [e3] at i; cases i
    · rw [e3] at i; cases i; exact j _ _ e4⟩
theorem Feed.walks {I : Addr} {fp wr : List Addr} {n : Nat} {P : Nat → Value → Prop} {St : Nat → Heap → Prop} {target : Expr} {xs : List Str} {h₁ : Heap} {ds : List Dat} {rows : List (List Dat)} (W : Walks prog w A I fp wr n P St) (hn : ds.length = n) (hr : rows.length = n)
    (hP : ∀ (i : Nat) v d, P i v → ds[i]? = some d → Rd X h₁ v d) (hasg : ∀ (i : Nat) d row, ds[i]? = some d → rows[i]? = some row → Asg prog w A target xs X d row) (hnew : ∀ b ∈ wr, h₁.get? b = none)
    (hlive : ∀ i h b, St i h → b ∈ fp → ∃ o, Sg h b o ∧ Itd o) (hlet : ∀ i (s : Shared) v (Q : Unit → Shared → Prop) (E : Value → Shared → Prop), St (i + 1) s.heap → Q () s → wpAny (model prog w) A (letOwnedTupleGo target (.ref I) v) Q E s) :
    Feed prog w A I target xs X h₁ (· ∈ fp) (· ∈ wr) rows St where
  sub := W.sub
  new := hnew
  frame := fun i h h' st k => W.frame i h h' st fun b hb o e => by
    obtain ⟨o', e', _⟩ := hlive i h b st hb
    have : o' = o := by have := e'.1; rw [e] at this; cases this; rfl
    subst this
    exact (k b o' hb e').1
  live := hlive
  self := W.self
  item := by
    intro i row env μ s E Q hrow hst hext O F hx hap hQ
    have hi : i < n := by rw [← hr]; exact (List.getElem?_eq_some_iff.mp hrow).1
    have hd : ds[i]? = some (ds[i]'(by omega)) := List.getElem?_eq_getElem (by omega)
    refine W.item i s _ E hi hst fun v h' tk hp st' k => ⟨v, rfl, hlet i _ v _ _ st' ?_⟩
    have tb := tab_wr (fun b hb => hlive i _ b hst (W.sub b hb)) k
    have kx : ∀ b o, b ∉ wr → Sg s.heap b o → Sg h' b o := fun b o hb e => ⟨k b o hb e.1, e.2⟩
    have ex : Ext h₁ h' := ⟨fun b o e => kx b o (fun q => by have := e.1; rw [hnew b q] at this; cases this) (hext.kept b o e), tab_trans hext.tab tb⟩
    have F' : FS env h' μ := by
      obtain ⟨m, ⟨o, es, ep, e, d, r⟩, em⟩ := F.ns
      refine ⟨⟨m, ⟨o, es, ep, k _ _ (fun q => hap _ (W.sub _ q) (.inl rfl)) e, d, r⟩, em⟩, fun x c hxk hc => ?_⟩
      obtain ⟨o, e, d⟩ := F.cell x c hxk hc
      exact ⟨o, k _ _ (fun q => hap _ (W.sub _ q) (.inr ⟨x, hc⟩)) e, d⟩
    refine hasg i _ row hd hrow env μ { s with heap := h', toks := tk } E Q v h₁ ex O F' hx (hP i v _ hp hd) fun s' vs hvs hl Fs hs' kk kq kt => ?_
    obtain ⟨h'', tk', hs'⟩ := hs'
    refine hQ s' vs hvs hl Fs ?_ ⟨h'', tk', hs'⟩ (fun b o nw nt e => kk b o nt (k b o nw e)) (fun b o nw e q => kq b o (k b o nw e) q) (tab_trans tb kt)
    · refine W.frame _ _ _ st' fun b hb o e => kk b o (fun x hx q => hap b hb q.own) e
  done := by
    intro s E Q hst hQ
    rw [hr] at hst
    exact W.done s _ E hst fun h' tk k => ⟨rfl, hQ h' tk k (tab_wr (fun b hb => hlive n _ b hst (W.sub b hb)) k)⟩
theorem let_name {x : Str} {px : Pos} {it v : Value} {Q : Unit → Shared → Prop} (h : Q () s) : wpAny (model prog w) A (letOwnedTupleGo (.Name x px) it v) Q E s := wpAny_pure h
theorem let_plain {es : List Expr} {k : Nat} {pos : Pos} {I : Addr} {v : Value} {o : Obj} {T : String} {Q : Unit → Shared → Prop} (ho : s.heap.get? I = some o) (hc : o.cls = .type T)
    (hT : (["enumerate", "zip", "dict_itemiterator", "dict_reverseitemiterator", "odict_iterator", "itertools.zip_longest", "itertools.pairwise"] : List String).contains T = false) (h : Q () s) :
    wpAny (model prog w) A (letOwnedTupleGo (.Tuple es k pos) (.ref I) v) Q E s := by
  unfold letOwnedTupleGo
  cases v with
  | ref a =>
    refine wpAny_bind (wpAny_load ho ?_)
    obtain ⟨c, d, dt, sl⟩ := o
    dsimp only at hc
    subst hc
    cases dt with
    | fields vs =>
      show wpAny _ _ (if ((["enumerate", "zip", "dict_itemiterator", "dict_reverseitemiterator", "odict_iterator", "itertools.zip_longest", "itertools.pairwise"] : List String).contains T && vs[0]? == some (rawInt a)) = true then _ else _) _ _ _
      rw [hT]
      exact wpAny_pure h
    | _ => exact wpAny_pure h
  | _ => exact wpAny_pure h
theorem Src.list {e target : Expr} {xs : List Str} {ds : List Dat} {rows : List (List Dat)} (hh : A.handled = none) (he : EV prog w A env X h e (.list ds)) (hr : rows.length = ds.length)
    (hasg : ∀ (i : Nat) d row, ds[i]? = some d → rows[i]? = some row → Asg prog w A target xs X d row) (ht : (∃ x p, target = .Name x p) ∨ ∃ es k p, target = .Tuple es k p) : Src prog w A env X h e target xs rows := by
  intro s E k
  refine he.now k fun v s₁ r k₁ => ?_
  obtain ⟨l, vs, rfl, hx, hl, y⟩ := r.list_inv
  refine iter_list hl.isList fun s₂ e2 st hfp hne => ?_
  subst e2
  have W := Walks.list (prog := prog) (w := w) (A := A) hh s₁.heap.objs.size l hne vs.toArray
  refine ⟨k₁.trans (Kp.push _ _), s₁.heap, s₁.heap.objs.size, _, _, _, rfl, k₁.ext, Ext.push _ _, Feed.walks W (ds := ds) (by simp [y.1]) (by simp [y.1, hr]) (fun i v d hp hd => ?_) hasg (fun b hb => ?_) (fun i h' b st hb => ?_) (fun i s v Q E st hQ => ?_), st, fun b hb => hfp b hb⟩
  · exact y.2 i v d (by simpa using hp) hd
  · rw [List.mem_singleton.mp hb]; exact get_none_of_size (Nat.le_refl _)
  · obtain ⟨⟨o, e1, e2, e3⟩, o', e4, e5, n', e6⟩ := st
    rcases List.mem_cons.mp hb with rfl | hb
    · exact ⟨o, ⟨e1, solid_cls e2⟩, .inr ⟨_, e3, fun q t => by simp⟩⟩
    · rw [List.mem_singleton.mp hb]
      exact ⟨o', ⟨e4, solid_cls e5⟩, .inl ⟨_, _, e6⟩⟩
  · obtain ⟨⟨o, e1, e2, e3⟩, _⟩ := st
    rcases ht with ⟨x, p, rfl⟩ | ⟨es, k, p, rfl⟩
    · exact let_name hQ
    · exact let_plain e1 e2 (by decide) hQ
end
end Mine
end
section
open PySem PySem.W PyProof.Rows
set_option Elab.async false
set_option linter.unusedVariables false
namespace Mine
section
variable {prog : Program} {w : World} {A : Around} {env : Env} {X : Addr → Prop} {h : Heap} {s : Shared} {E : Value → Shared → Prop}
theorem call_type_any {x : Str} {px pos : Pos} {T : String} {e : Expr} {es : List Expr} {ds : List Dat} {Q : Value → Shared → Prop} (k : At X h s.heap) (hf : EV prog w A env X h (.Name x px) (.val (.type T))) (ha : EVs prog w A env X h (e :: es) ds)
    (he : starEach (e :: es) env = (false, eval e env) :: starEach es env) (hp : ∀ pos, (backTo pos (starEach es env)).any (·.1) = false)
    (hQ : ∀ s' vs, At X h s'.heap → RdL X s'.heap vs ds → Kp s s' → wpAny (model prog w) A (call (.type T) vs) Q E s') : wpAny (model prog w) A (eval (.Call (.Name x px) (e :: es) [] pos) env) Q E s :=
  wpAny_Call_NameR (hf.now k fun f s₁ r₁ k₁ => by
    cases r₁
    exact PyProof.Rows.callWith_type1 (wpAny_mono (ha pos s₁ E (k.go k₁.ext)) (fun vs s₂ q => hQ s₂ vs ((k.go k₁.ext).go q.2.ext) q.1 (k₁.trans q.2)) fun _ _ e => e) he (hp _))
theorem Src.str {e target : Expr} {x : Str} {y : Str} {px : Pos} (hh : A.handled = none) (he : EV prog w A env X h e (.str x)) : Src prog w A env X h e (.Name y px) [y] (x.cps.toList.map fun c => [.str ⟨#[c]⟩]) := by
  intro s E k
  refine he.now k fun v s₁ r k₁ => ?_
  cases r
  rename_i t
  have key : ∀ (T : String) (W : ∀ I : Addr, Walks prog w A I [I] [I] x.cps.size (SignAt x) (fun i h => h.IsStrIter I T x t i)), strIterType x = T →
      wpAny (model prog w) A (pyIter (.str x t)) (fun it s₂ => Kp s s₂ ∧ ∃ h₁ I fp wr St, it = .ref I ∧ Ext s.heap h₁ ∧ Ext h₁ s₂.heap ∧ Feed prog w A I (.Name y px) [y] X h₁ fp wr (x.cps.toList.map fun c => [.str ⟨#[c]⟩]) St ∧ St 0 s₂.heap ∧ (∀ b, fp b → b < s₂.heap.objs.size)) E s₁ := by
    intro T W hT
    refine wpAny_pyIter_strU ?_
    rw [hT]
    refine ⟨k₁.trans (Kp.push _ _), s₁.heap, s₁.heap.objs.size, _, _, _, rfl, k₁.ext, Ext.push _ _, Feed.walks (W _) (ds := x.cps.toList.map fun c => .str ⟨#[c]⟩) (by simp) (by simp) (fun i v d hp hd => ?_) (fun i d row hd hr => ?_) (fun b hb => ?_) (fun i h' b st hb => ?_) (fun i s v Q E st hQ => let_name hQ),
      ⟨_, Heap.get?_push_size _ rfl, rfl, rfl⟩, fun b hb => ?_⟩
    · obtain ⟨c, u, e1, rfl⟩ := hp
      simp only [List.getElem?_map, Array.getElem?_toList, e1, Option.map_some, Option.some.injEq] at hd
      subst hd; exact .str _ _
    · simp only [List.getElem?_map] at hd hr
      cases e1 : x.cps.toList[i]? with
      | none => rw [e1] at hd; cases hd
      | some c => rw [e1] at hd hr; cases hd; cases hr; exact Asg.name
    · rw [List.mem_singleton.mp hb]; exact get_none_of_size (Nat.le_refl _)
    · rw [List.mem_singleton.mp hb]
      obtain ⟨o, e1, e2, e3⟩ := st
      exact ⟨o, ⟨e1, solid_cls e2⟩, .inr ⟨_, e3, fun q t => by simp⟩⟩
    · rw [List.mem_singleton.mp hb]
      show _ < (s₁.heap.push _).objs.size
      rw [Heap.size_push]; exact Nat.lt_succ_self _
  by_cases ha : strIterType x = "str_ascii_iterator"
  · exact key _ (fun I => Walks.strAscii hh I x t) ha
  · refine key "str_iterator" (fun I => Walks.strWide hh I x t) ?_
    unfold strIterType at ha ⊢
    split at ha
    · exact absurd rfl ha
    · rename_i q; rw [if_neg q]
theorem range_feed {s₀ : Shared} (k₁ : Kp s₀ s) {rows : List (List Dat)} {y : Str} {px : Pos} {a b : Int} {r : Addr} {t u v : Tok} (hrows : rows = (List.range (b - a).toNat).map fun i : Nat => [Dat.int (a + (i : Int))]) (hh : A.handled = none) (hr : IsRange s.heap r a b 1 t u v) (hsm : Builtin.Range.small a b 1 = true) :
    wpAny (model prog w) A (pyIter (.ref r)) (fun it s₂ => Kp s₀ s₂ ∧ ∃ h₁ I fp wr St, it = .ref I ∧ Ext s₀.heap h₁ ∧ Ext h₁ s₂.heap ∧ Feed prog w A I (.Name y px) [y] X h₁ fp wr rows St ∧ St 0 s₂.heap ∧ (∀ b, fp b → b < s₂.heap.objs.size)) E s := by
  subst hrows
  refine wpAny_pyIter_range hr hsm ?_
  have W := Walks.range (prog := prog) (w := w) (A := A) hh s.heap.objs.size a 1 (b - a).toNat
  refine ⟨k₁.trans (Kp.push _ _), s.heap, s.heap.objs.size, _, _, _, rfl, k₁.ext, Ext.push _ _, Feed.walks W (ds := (List.range (b - a).toNat).map fun i : Nat => Dat.int (a + (i : Int))) (by simp) (by simp) (fun i v d hp hd => ?_) (fun i d row hd hr => ?_) (fun b hb => ?_) (fun i h' b st hb => ?_) (fun i s v Q E st hQ => let_name hQ), ?_, fun b hb => ?_⟩
  · obtain ⟨t, rfl⟩ := hp
    simp only [List.getElem?_map, List.getElem?_range] at hd
    cases e1 : (List.range (b - a).toNat)[i]? with
    | none => rw [e1] at hd; cases hd
    | some j =>
      rw [e1] at hd
      obtain ⟨hj, e2⟩ := List.getElem?_eq_some_iff.mp e1
      rw [List.getElem_range] at e2
      subst e2
      simp only [Option.map_some, Option.some.injEq] at hd
      subst hd
      rw [Int.mul_one]; exact .int _ _
  · simp only [List.getElem?_map] at hd hr
    cases e1 : (List.range (b - a).toNat)[i]? with
    | none => rw [e1] at hd; cases hd
    | some c => rw [e1] at hd hr; cases hd; cases hr; exact Asg.name
  · rw [List.mem_singleton.mp hb]; exact get_none_of_size (Nat.le_refl _)
  · rw [List.mem_singleton.mp hb]
    exact ⟨_, ⟨st, solid_cls rfl⟩, .inr ⟨_, rfl, fun q t => by simp [rawInt]⟩⟩
  · show IsRangeIter _ _ _ _ _
    have e : Builtin.Range.rangeSize a b 1 = ((b - a).toNat : Int) := rangeSize_nat a b
    rw [e]
    have := Heap.get?_push_size s.heap (o := { cls := .type "range_iterator", data := .fields #[rawInt a, rawInt ((b - a).toNat : Int), rawInt 1] }) rfl
    simpa using this
  · rw [List.mem_singleton.mp hb]
    show _ < (s.heap.push _).objs.size
    rw [Heap.size_push]; exact Nat.lt_succ_self _
theorem Src.range1 {f e : Expr} {x y : Str} {px pos py : Pos} {b : Int} (hh : A.handled = none) (hf : EV prog w A env X h (.Name x px) (.val (.type "range"))) (he : EV prog w A env X h e (.int b)) (hsm : Builtin.Range.small 0 b 1 = true)
    (hs : starEach [e] env = [(false, eval e env)]) : Src prog w A env X h (.Call (.Name x px) [e] [] pos) (.Name y py) [y] ((List.range b.toNat).map fun i : Nat => [Dat.int (i : Int)]) := by
  intro s E k
  refine call_type_any k hf (.cons he .nil hs) hs (fun _ => rfl) fun s' vs k' r ks => ?_
  obtain ⟨v, rfl, rv⟩ := r.one
  cases rv
  refine call_range_1 (s := s') ?_
  exact range_feed (ks.trans ⟨_, _, rfl, Ext.push _ _⟩) (s := { s' with heap := s'.heap.push _, toks := s'.toks + 1 + 1 }) (a := 0) (b := b) (by simp) hh (Heap.get?_push_size _ rfl) hsm
theorem Src.range2 {e e' : Expr} {x y : Str} {px pos py : Pos} {a b : Int} (hh : A.handled = none) (hf : EV prog w A env X h (.Name x px) (.val (.type "range"))) (he : EV prog w A env X h e (.int a)) (he' : EV prog w A env X h e' (.int b)) (hsm : Builtin.Range.small a b 1 = true)
    (hs : starEach [e, e'] env = [(false, eval e env), (false, eval e' env)]) (hs' : starEach [e'] env = [(false, eval e' env)]) : Src prog w A env X h (.Call (.Name x px) [e, e'] [] pos) (.Name y py) [y] ((List.range (b - a).toNat).map fun i : Nat => [Dat.int (a + (i : Int))]) := by
  intro s E k
  refine call_type_any k hf (.cons he (.cons he' .nil hs') (by rw [hs, hs'])) (by rw [hs, hs']) (fun _ => by rw [hs']; rfl) fun s' vs k' r ks => ?_
  obtain ⟨v, u, rfl, r, r'⟩ := r.two
  cases r; cases r'
  refine call_range_2 (s := s') ?_
  exact range_feed (ks.trans ⟨_, _, rfl, Ext.push _ _⟩) (s := { s' with heap := s'.heap.push _, toks := s'.toks + 1 }) rfl hh (Heap.get?_push_size _ rfl) hsm
end
end Mine
end
section
open PySem PySem.W PyProof.Rows
set_option Elab.async false
set_option linter.unusedVariables false
namespace Mine
section
variable {prog : Program} {w : World} {A : Around} {env : Env} {X : Addr → Prop} {h : Heap} {s : Shared} {E : Value → Shared → Prop}
theorem Feed.walksT {I : Addr} {fp wr : List Addr} {n : Nat} {Pt : Nat → Array Value → Prop} {St : Nat → Heap → Prop} {Mid : Nat → Addr → Heap → Prop} {es : List Expr} {ek : Nat} {ep : Pos} {xs : List Str} {h₁ : Heap} {rows : List (List Dat)} (hh : A.handled = none) (W : WalksT prog w A I fp wr n Pt St Mid) (hr : rows.length = n)
    (hnm : namesOf es = some xs) (hP : ∀ (i : Nat) vals row, Pt i vals → rows[i]? = some row → RdL X h₁ vals.toList row ∧ vals.size = xs.length) (hnew : ∀ b ∈ wr, h₁.get? b = none)
    (hlive : ∀ i h b, St i h → b ∈ fp → ∃ o, Sg h b o ∧ Itd o) (hliveM : ∀ i T h b, Mid i T h → b ∈ wr → ∃ o, Sg h b o ∧ Itd o) :
    Feed prog w A I (.Tuple es ek ep) xs X h₁ (· ∈ fp) (· ∈ wr) rows St where
  sub := W.sub
  new := hnew
  frame := fun i h h' st k => W.frame i h h' st fun b hb o e => by
    obtain ⟨o', e', _⟩ := hlive i h b st hb
    have : o' = o := by have := e'.1; rw [e] at this; cases this; rfl
    subst this
    exact (k b o' hb e').1
  live := hlive
  self := W.self
  item := by
    intro i row env μ s E Q hrow hst hext O F hx hap hQ
    have hi : i < n := by rw [← hr]; exact (List.getElem?_eq_some_iff.mp hrow).1
    refine W.item i s _ E hi hst fun T vals h' tk hp hge hT hmid k => ⟨.ref T, rfl, ?_⟩
    obtain ⟨hrd, hvl⟩ := hP i vals row hp hrow
    have tb := tab_wr (fun b hb => hlive i _ b hst (W.sub b hb)) k
    refine W.go es ek ep i T { s with heap := h', toks := tk } _ E hmid fun h'' st' k' => ?_
    have tb' := tab_wr (fun b hb => hliveM i T _ b hmid hb) k'
    have hTw : T ∉ wr := W.apart _ _ _ hmid
    have hT' : IsTup h'' T vals := by
      obtain ⟨o, e1, e2, m, e3⟩ := hT
      exact ⟨o, k' _ _ hTw e1, e2, m, e3⟩
    have F' : FS env h'' μ := by
      obtain ⟨m, ⟨o, es, ep, e, d, r⟩, em⟩ := F.ns
      refine ⟨⟨m, ⟨o, es, ep, k' _ _ (fun q => hap _ (W.sub _ q) (.inl rfl)) (k _ _ (fun q => hap _ (W.sub _ q) (.inl rfl)) e), d, r⟩, em⟩, fun x c hxk hc => ?_⟩
      obtain ⟨o, e, d⟩ := F.cell x c hxk hc
      exact ⟨o, k' _ _ (fun q => hap _ (W.sub _ q) (.inr ⟨x, hc⟩)) (k _ _ (fun q => hap _ (W.sub _ q) (.inr ⟨x, hc⟩)) e), d⟩
    obtain ⟨n1, n2⟩ := namesOf_length hnm env
    refine assign_Tuple_tuple (s := { s with heap := h'', toks := tk }) hh hT' (by rw [n1, hvl]) n2 fun h₃ hk₃ => ?_
    have k₃ : ∀ b o, h''.get? b = some o → h₃.get? b = some o := fun b o e => hk₃ b o (Nat.ne_of_lt (Heap.lt_size e)) e
    refine stores_names (s := { s with heap := h₃, toks := tk }) hnm O (F'.ext (.of k₃)) hx (by simpa using hvl) fun s' Fs hs' kk kq kt => ?_
    obtain ⟨h₄, tk', hs'⟩ := hs'
    refine hQ s' vals.toList hrd (by simpa using hvl) Fs ?_ ⟨h₄, tk', hs'⟩ (fun b o nw nt e => kk b o nt (k₃ _ _ (k' b o nw (k b o nw e)))) (fun b o nw e q => kq b o (k₃ _ _ (k' b o nw (k b o nw e))) q) (tab_trans tb (tab_trans tb' (tab_trans (Ext.of k₃).tab kt)))
    exact W.frame _ _ _ st' fun b hb o e => kk b o (fun x hx q => hap b hb q.own) (k₃ _ _ e)
  done := by
    intro s E Q hst hQ
    rw [hr] at hst
    exact W.done s _ E hst fun h' tk k => ⟨rfl, hQ h' tk k (tab_wr (fun b hb => hlive n _ b hst (W.sub b hb)) k)⟩
theorem zip_apart {n l1 l2 : Nat} (h1 : l1 < n) (h2 : l2 < n) : ZipApart (n + 4) (n + 2) (n + 3) n (n + 1) l1 l2 :=
  ⟨by simp, by simp, (by show n ≠ n + 4; omega), (by show n + 1 ≠ n + 4; omega), by simp, (by show n + 2 ≠ n; omega), by simp, (by show n + 3 ≠ n; omega), by simp, (by show n ≠ n + 1; omega), (by show l1 ≠ n + 4; omega), (by show l1 ≠ n + 3; omega), (by show l1 ≠ n; omega), (by show l1 ≠ n + 1; omega), (by show l2 ≠ n + 4; omega), (by show l2 ≠ n + 3; omega), (by show l2 ≠ n; omega), (by show l2 ≠ n + 1; omega)⟩
theorem Src.zip2 {e e' : Expr} {es : List Expr} {ek : Nat} {ep : Pos} {x : Str} {xs : List Str} {px pos : Pos} {ds ds' : List Dat} (hh : A.handled = none) (hf : EV prog w A env X h (.Name x px) (.val (.type "zip"))) (he : EV prog w A env X h e (.list ds)) (he' : EV prog w A env X h e' (.list ds'))
    (hnm : namesOf es = some xs) (hxs : xs.length = 2) (hs : starEach [e, e'] env = [(false, eval e env), (false, eval e' env)]) (hs' : starEach [e'] env = [(false, eval e' env)]) :
    Src prog w A env X h (.Call (.Name x px) [e, e'] [] pos) (.Tuple es ek ep) xs ((ds.zip ds').map fun p => [p.1, p.2]) := by
  intro s E k
  refine call_type_any k hf (.cons he (.cons he' .nil hs') (by rw [hs, hs'])) (by rw [hs, hs']) (fun _ => by rw [hs']; rfl) fun s' vs k' r ks => ?_
  obtain ⟨v, u, rfl, r, r'⟩ := r.two
  obtain ⟨l1, us, rfl, hx1, hl1, y1⟩ := r.list_inv
  obtain ⟨l2, us', rfl, hx2, hl2, y2⟩ := r'.list_inv
  refine call_zip_2 (s := s') hl1.isList hl2.isList fun h' hz hTI hTO i1 i2 hsz hk => ?_
  have ks' : Kp s' { s' with heap := h' } := ⟨h', s'.toks, rfl, .of hk⟩
  refine wpAny_pyIter_zip (s := { s' with heap := h' }) hz ⟨ks.trans ks', ?_⟩
  have lt1 : l1 < s'.heap.objs.size := by obtain ⟨_, e⟩ := hl1; exact Heap.lt_size e
  have lt2 : l2 < s'.heap.objs.size := by obtain ⟨_, e⟩ := hl2; exact Heap.lt_size e
  have D := zip_apart lt1 lt2
  have W := WalksT.zip2 (prog := prog) (w := w) hh (s'.heap.objs.size + 4) (s'.heap.objs.size + 2) (s'.heap.objs.size + 3) s'.heap.objs.size (s'.heap.objs.size + 1) l1 l2 D us.toArray us'.toArray
  refine ⟨s'.heap, s'.heap.objs.size + 4, _, _, _, rfl, ks.ext, .of hk, Feed.walksT hh W ?_ hnm (fun i vals row hp hrow => ?_) (fun b hb => ?_) (fun i h' b st hb => ?_) (fun i T h' b st hb => ?_),
    ⟨hz, hTI, ⟨_, _, hTO⟩, i1, i2, ?_, ?_⟩, fun b hb => ?_⟩
  · simp [y1.1, y2.1]
  · obtain ⟨a, b, e1, e2, rfl⟩ := hp
    simp only [List.getElem?_map] at hrow
    cases e3 : (ds.zip ds')[i]? with
    | none => rw [e3] at hrow; cases hrow
    | some q =>
      rw [e3] at hrow
      cases hrow
      obtain ⟨q1, q2⟩ := List.getElem?_zip_eq_some.mp e3
      refine ⟨.cons (y1.2 i a _ (by simpa using e1) q1) (.cons (y2.2 i b _ (by simpa using e2) q2) .nil), by simp [hxs]⟩
  · refine get_none_of_size ?_
    simp only [List.mem_cons, List.not_mem_nil, or_false] at hb
    rcases hb with rfl | rfl | rfl | rfl
    · exact Nat.le_add_right _ _
    · exact Nat.le_add_right _ _
    · exact Nat.le_refl _
    · exact Nat.le_add_right _ _
  · obtain ⟨a1, a2, ⟨p, q, a3⟩, ⟨o1, b1, b2, b3⟩, ⟨o2, c1, c2, c3⟩, ⟨o3, d1, d2, n3, d3⟩, ⟨o4, e1, e2, n4, e3⟩⟩ := st
    simp only [List.mem_cons, List.not_mem_nil, or_false] at hb
    rcases hb with rfl | rfl | rfl | rfl | rfl | rfl | rfl
    · exact ⟨_, ⟨a1, solid_cls rfl⟩, .inr ⟨_, rfl, fun q t => by simp⟩⟩
    · exact ⟨_, ⟨a2, solid_cls rfl⟩, .inl ⟨_, _, rfl⟩⟩
    · exact ⟨_, ⟨a3, solid_cls rfl⟩, .inl ⟨_, _, rfl⟩⟩
    · exact ⟨_, ⟨b1, solid_cls b2⟩, .inr ⟨_, b3, fun q t => by simp⟩⟩
    · exact ⟨_, ⟨c1, solid_cls c2⟩, .inr ⟨_, c3, fun q t => by simp⟩⟩
    · exact ⟨_, ⟨d1, solid_cls d2⟩, .inl ⟨_, _, d3⟩⟩
    · exact ⟨_, ⟨e1, solid_cls e2⟩, .inl ⟨_, _, e3⟩⟩
  · obtain ⟨a1, a2, ⟨p, q, a3⟩, ⟨o1, b1, b2, b3⟩, ⟨o2, c1, c2, c3⟩, _⟩ := st
    simp only [List.mem_cons, List.not_mem_nil, or_false] at hb
    rcases hb with rfl | rfl | rfl | rfl
    · exact ⟨_, ⟨a1, solid_cls rfl⟩, .inr ⟨_, rfl, fun q t => by simp⟩⟩
    · exact ⟨_, ⟨a3, solid_cls rfl⟩, .inl ⟨_, _, rfl⟩⟩
    · exact ⟨_, ⟨b1, solid_cls b2⟩, .inr ⟨_, b3, fun q t => by simp⟩⟩
    · exact ⟨_, ⟨c1, solid_cls c2⟩, .inr ⟨_, c3, fun q t => by simp⟩⟩
  · exact (plainExt hl1 (.of hk)).isList
  · exact (plainExt hl2 (.of hk)).isList
  · show b < h'.objs.size
    rw [hsz]
    simp only [List.mem_cons, List.not_mem_nil, or_false] at hb
    have lt1' : (l1 : Nat) < s'.heap.objs.size := lt1
    have lt2' : (l2 : Nat) < s'.heap.objs.size := lt2
    rcases hb with rfl | rfl | rfl | rfl | rfl | rfl | rfl
    · exact Nat.lt_succ_self _
    · exact Nat.add_lt_add_left (by decide) _
    · exact Nat.add_lt_add_left (by decide) _
    · exact Nat.lt_add_of_pos_right (by decide)
    · exact Nat.add_lt_add_left (by decide) _
    · exact Nat.lt_of_lt_of_le lt1' (Nat.le_add_right _ _)
    · exact Nat.lt_of_lt_of_le lt2' (Nat.le_add_right _ _)
end
end Mine
end
section
open PySem PySem.W PyProof.Rows
set_option Elab.async false
set_option linter.unusedVariables false
namespace Mine
section
variable {prog : Program} {w : World} {A : Around} {env : Env} {X : Addr → Prop} {h : Heap} {s : Shared} {E : Value → Shared → Prop}
theorem callWith_first {id : String} {first : List Value} {e : Expr} {rest : List Expr} {pos : Pos} {Q : Value → Shared → Prop}
    (h : wpAny (model prog w) A (spliced (backTo pos (starEach (e :: rest) env))) (fun vs s₁ => wpAny (model prog w) A (call (.builtin id) (first ++ vs)) Q E s₁) E s)
    (he : starEach (e :: rest) env = (false, eval e env) :: starEach rest env) (hplain : (backTo pos (starEach rest env)).any (·.1) = false) :
    wpAny (model prog w) A (callWith pos (.builtin id) first (backTo pos (starEach (e :: rest) env)) []) Q E s := by
  rw [he] at h ⊢
  exact Calls.callWith_builtin (by show (false || (backTo pos (starEach rest env)).any (·.1)) = false; rw [hplain]; rfl) (Calls.evalArgs_plain h)
noncomputable def Has (X : Addr → Prop) (h : Heap) (d : Dat) (T : String) : Prop := ∀ (s : Shared) v, At X h s.heap → Rd X s.heap v d → s.TypeIs v T ∧ (∀ a, v = .ref a → ∃ ob, s.heap.get? a = some ob ∧ ob.dict = none)
theorem Has.str {x : Str} : Has X h (.str x) "str" := fun s v k r => by cases r; exact ⟨typeIs_str _ _ _, fun a e => by cases e⟩
theorem EV.meth {o : Expr} {name : Str} {apos pos : Pos} {e : Expr} {es : List Expr} {T id : String} {d₀ d : Dat} {ds : List Dat} (pa : PlainAttrs T) (slot : Slot T name id) (hty : typeOf (.builtin id) = pure (.type "method_descriptor"))
    (ho : EV prog w A env X h o d₀) (hT : Has X h d₀ T) (ha : EVs prog w A env X h (e :: es) ds) (hc : FnH prog w A X h (.builtin id) (d₀ :: ds) d)
    (hbase : attributeBase o name env (eval o env) = eval o env)
    (hfew : ((backTo pos (starEach (e :: es) env)).all (fun x => !x.1) && (backToKw pos (keywordEach [] env)).all (fun x => x.1.isSome)
      && decide ((e :: es).length + ([] : List Keyword).length + (if ([] : List Keyword).isEmpty then 0 else 1) < 30)) = true)
    (hline : (apos.endLine == pos.line) = true) (he : starEach (e :: es) env = (false, eval e env) :: starEach es env) (hp : ∀ pos, (backTo pos (starEach es env)).any (·.1) = false) :
    EV prog w A env X h (.Call (.Attribute o name apos) (e :: es) [] pos) d := fun s E k =>
  wpAny_Call_method hbase hfew hline pa slot hty (ho.now k fun v s₁ r k₁ => by
    obtain ⟨t1, t2⟩ := hT s₁ v (k.go k₁.ext) r
    refine ⟨t1, t2, callWith_first (wpAny_mono (ha pos s₁ E (k.go k₁.ext)) (fun vs s₂ q => ?_) fun _ _ e => e) he (hp _)⟩
    exact wpAny_mono (hc s₂ E (v :: vs) ((k.go k₁.ext).go q.2.ext) (.cons (r.ext q.2.ext) q.1)) (fun r s₃ z => ⟨z.1, (k₁.trans q.2).trans z.2⟩) fun _ _ e => e)
theorem EV.meth0 {o : Expr} {name : Str} {apos pos : Pos} {T id : String} {d₀ d : Dat} (pa : PlainAttrs T) (slot : Slot T name id) (hty : typeOf (.builtin id) = pure (.type "method_descriptor"))
    (ho : EV prog w A env X h o d₀) (hT : Has X h d₀ T) (hc : FnH prog w A X h (.builtin id) [d₀] d)
    (hbase : attributeBase o name env (eval o env) = eval o env) (hline : (apos.endLine == pos.line) = true) :
    EV prog w A env X h (.Call (.Attribute o name apos) [] [] pos) d := fun s E k =>
  wpAny_Call_method hbase rfl hline pa slot hty (ho.now k fun v s₁ r k₁ => by
    obtain ⟨t1, t2⟩ := hT s₁ v (k.go k₁.ext) r
    refine ⟨t1, t2, Calls.callWith_builtin rfl (PySem.evalArgs_none ?_)⟩
    exact wpAny_mono (hc s₁ E [v] (k.go k₁.ext) (.cons r .nil)) (fun r s₃ z => ⟨z.1, k₁.trans z.2⟩) fun _ _ e => e)
noncomputable def CmpH (prog : Program) (w : World) (A : Around) (X : Addr → Prop) (h : Heap) (op : CmpOp) (a b : Dat) (c : Bool) : Prop :=
  ∀ (s : Shared) (E : Value → Shared → Prop) (v u : Value), At X h s.heap → Rd X s.heap v a → Rd X s.heap u b → wpAny (model prog w) A (compareOp op v u) (fun r s' => r = .bool c ∧ Kp s s') E s
theorem Cmp.toH {op : CmpOp} {a b : Dat} {c : Bool} (x : Cmp prog w A X op a b c) : CmpH prog w A X h op a b c := fun s E v u k r₁ r₂ => x s E v u k.live r₁ r₂
theorem EV.cmpH {l r : Expr} {op : CmpOp} {pos : Pos} {a b : Dat} {c : Bool} (hl : EV prog w A env X h l a) (hr : EV prog w A env X h r b) (ho : CmpH prog w A X h op a b c) (hm : behindInMarks op r = false) : EV prog w A env X h (.Compare l [op] [r] pos) (.bool c) := fun s E k =>
  wpAny_Compare1 (hl.now k fun v s₁ r₁ k₁ => Gv.at hr k k₁ fun u s₂ r₂ k₀ k₂ => wpAny_mono (ho s₂ E v u (k.go k₀.ext) (r₁.ext k₂.ext) r₂) (fun r s' q => by obtain ⟨rfl, q⟩ := q; exact ⟨.bool _, k₀.trans q⟩) fun _ _ e => e) hm
noncomputable def IntSet (prog : Program) (w : World) (h : Heap) (a : Addr) (S : Int → Bool) : Prop := ∃ o n, Sg h a o ∧ ∀ h' : Heap, h'.get? a = some o → h'.SetOf (intKind prog w) a S n
theorem CmpH.inSet {i : Int} {a : Addr} {S : Int → Bool} (hS : IntSet prog w h a S) : CmpH prog w A X h .In (.int i) (.val (.ref a)) (S i) := by
  intro s E v u k r₁ r₂
  cases r₁; cases r₂
  obtain ⟨o, n, e, hS⟩ := hS
  exact wpAny_inSet_of (knd := intKind prog w) (k := i) (by simp [intKind, Value.isInt]) rfl (hS _ (k.ext.kept _ _ e).1) ⟨rfl, Kp.toks s _⟩
noncomputable def IntDict (prog : Program) (w : World) (h : Heap) (a : Addr) (kvs : List (Int × Value)) : Prop := ∃ o, Sg h a o ∧ o.dict = none ∧ o.cls = .type "dict" ∧ ∀ h' : Heap, h'.get? a = some o → h'.DictOf (intKind prog w) a kvs
theorem IntDict.has {a : Addr} {kvs : List (Int × Value)} (hd : IntDict prog w h a kvs) : Has X h (.val (.ref a)) "dict" := fun s v k r => by
  cases r
  obtain ⟨o, e, d, c, _⟩ := hd
  have e' := (k.ext.kept _ _ e).1
  exact ⟨⟨o, e', c⟩, fun b q => by cases q; exact ⟨o, e', d⟩⟩
theorem FnH.dictGet {a : Addr} {kvs : List (Int × Value)} {i : Int} {d : Dat} (hd : IntDict prog w h a kvs) (hS : (a == sysModules) = false) (hv : ∀ h' : Heap, Rd X h' ((valueAt kvs i).getD .none) d) : FnH prog w A X h (.builtin "dict.get") [.val (.ref a), .int i] d := by
  intro s E vs k r
  obtain ⟨v, u, rfl, r₁, r₂⟩ := r.two
  cases r₁; cases r₂
  obtain ⟨o, e, e2, e3, hD⟩ := hd
  have hm := (hD _ (k.ext.kept _ _ e).1).mapOf
  exact call_meetsIn F.slot_dict_get hm.typeIs F.entry_dict_get (F.args_dict_get_2 _ _) (meets_dict_get (intKind prog w) a (k := i) (by simp [intKind, Value.isInt]) hS) ⟨_, hm, hv _, Kp.toks s _⟩
theorem FnH.lower {x y : Str} (e : Txt.lower x = y) (hf : PySem.Builtin.Str.tooLong (Txt.lower x).length = false) : FnH prog w A X h (.builtin "str.lower") [.str x] (.str y) := by
  intro s E vs k r
  obtain ⟨v, rfl, r₁⟩ := r.one
  cases r₁
  exact KXw.lower e hf fun t' k => ⟨.str _ _, Kp.toks s _⟩
theorem RdL.strs {h : Heap} : ∀ {vs : List Value} {xs : List Str}, RdL X h vs (xs.map .str) → ∃ l : List (Str × Tok), vs = strValues l ∧ l.map (·.1) = xs
  | [], [], _ => ⟨[], rfl, rfl⟩
  | [], _ :: _, r => by have := r.1; simp at this
  | v :: vs, [], r => by have := r.1; simp at this
  | v :: vs, x :: xs, r => by
    obtain ⟨d, ds, e, a, b⟩ := r.cons_inv
    cases e
    cases a
    rename_i t
    obtain ⟨l, rfl, hl⟩ := RdL.strs b
    exact ⟨(x, t) :: l, rfl, by simp [hl]⟩
theorem FnH.join {x : Str} {texts : List Str} (hok : JoinOk x texts = true) : FnH prog w A X h (.builtin "str.join") [.str x, .list (texts.map .str)] (.str (Txt.join x texts)) := by
  intro s E vs k r
  obtain ⟨v, u, rfl, r₁, r₂⟩ := r.two
  cases r₁
  obtain ⟨a, us, rfl, hx, hl, y⟩ := r₂.list_inv
  obtain ⟨l, rfl, hm⟩ := y.strs
  exact SC.join hl.isList hm hok fun t' k => ⟨.str _ _, Kp.toks s _⟩
end
end Mine
end
section
open PySem PySem.W PyProof.Rows
set_option Elab.async false
set_option linter.unusedVariables false
namespace Mine
section
variable {prog : Program} {w : World} {A : Around} {env : Env} {X M : Addr → Prop} {h : Heap} {s s₀ : Shared} {E : Value → Shared → Prop}
theorem ex_while {ι : Type} (m : ι → Nat) (ρI : ι → List (Str × Dat)) (Ex : ι → Shared → Prop) (i₀ : ι) {test : Expr} {body rest : List Stmt} {pos : Pos} {Q : Flow → Shared → Prop} (F : Fm env X M s₀ s (ρI i₀)) (hE : Ex i₀ s)
    (turn : ∀ i s₁, Fm env X M s₀ s₁ (ρI i) → Ex i s₁ → Stp env M s s₁ → ∃ c, TV prog w A env X s₁.heap test c ∧
      (c = true → ∀ s₂ E, Fm env X M s₀ s₂ (ρI i) → Kp s₁ s₂ → wpAny (model prog w) A (execs body env) (fun f s₃ => f = .next ∧ ∃ j, m j < m i ∧ Fm env X M s₀ s₃ (ρI j) ∧ Ex j s₃ ∧ Stp env M s₂ s₃) E s₂) ∧
      (c = false → ∀ s₂, Fm env X M s₀ s₂ (ρI i) → Stp env M s s₂ → Kp s₁ s₂ → wpAny (model prog w) A (execs rest env) Q E s₂)) :
    wpAny (model prog w) A (execs (.While test body [] pos :: rest) env) Q E s := by
  refine wpAny_execs_cons (wpAny_While (codeAny_whileLoop (fun n s' => ∃ i, n = m i ∧ Fm env X M s₀ s' (ρI i) ∧ Ex i s' ∧ Stp env M s s') ?_ (m i₀) ⟨i₀, rfl, F, hE, Stp.refl s⟩))
  rintro n s' ⟨i, rfl, F', hE', st⟩
  obtain ⟨c, ht, h1, h2⟩ := turn i s' F' hE' st
  refine ht.now F'.at fun s₂ k₂ => ?_
  have F₂ := F'.kp k₂
  cases c with
  | true =>
    rw [if_pos rfl]
    refine wpAny_mono (h1 rfl s₂ _ F₂ k₂) (fun f s₃ q => ?_) fun _ _ e => e
    obtain ⟨rfl, j, hm, F₃, hE₃, st₃⟩ := q
    exact ⟨_, hm, j, rfl, F₃, hE₃, (st.trans (Stp.of k₂)).trans st₃⟩
  | false =>
    rw [if_neg Bool.false_ne_true]
    exact wpAny_execs_nil (h2 rfl s₂ F₂ (st.trans (Stp.of k₂)) k₂)
noncomputable def SrcW (prog : Program) (w : World) (A : Around) (env : Env) (X : Addr → Prop) (h : Heap) (e : Expr) (ds : List Dat) : Prop :=
  ∀ (s : Shared) (E : Value → Shared → Prop), At X h s.heap → wpAny (model prog w) A (eval e env) (fun v s₁ => wpAny (model prog w) A (pyIter v) (fun it s₂ => Kp s s₂ ∧
    ∃ I n P St, it = .ref I ∧ (∀ o, ¬ Sg s.heap I o) ∧ Walks prog w A I [I] [I] n P St ∧ ds.length = n ∧ (∀ (i : Nat) v d, P i v → ds[i]? = some d → ∀ X' h', Rd X' h' v d) ∧
      (∀ i h, St i h → ∃ o, Sg h I o ∧ Itd o ∧ ∀ items n, o.data ≠ .seq items n) ∧ St 0 s₂.heap) E s₁) E s
theorem Fm.hop {ρ : List (Str × Dat)} {s' : Shared} {I : Addr} {h' : Heap} {tk : Nat} (O : EnvOk env) (F : Fm env X M s₀ s ρ) {ρ' : List (Str × Dat)} (F' : Fm env X M s₀ s' ρ') (hI : ∀ o, ¬ Sg s.heap I o) (st : Stp env M s s')
    (hSt : ∃ o, Sg s'.heap I o ∧ Itd o ∧ ∀ items n, o.data ≠ .seq items n) (k : ∀ b o, b ∉ [I] → s'.heap.get? b = some o → h'.get? b = some o) :
    Fm env X M s₀ { s' with heap := h', toks := tk } ρ' ∧ Stp env M s { s' with heap := h', toks := tk } ∧ SeqExt Ø s'.heap h' ∧ (∀ b o, b ≠ I → Sg s'.heap b o → Sg h' b o) := by
  obtain ⟨μ, G, K⟩ := F.loc.st
  obtain ⟨hIl, hIc⟩ := G.fresh O hI
  obtain ⟨oI, ⟨e1, e2⟩, e3, e4⟩ := hSt
  have tb := tab_wr (h' := h') (wr := [I]) (fun b hb => by rw [List.mem_singleton.mp hb]; exact ⟨oI, ⟨e1, e2⟩, e3⟩) k
  have kx : ∀ b o, b ≠ I → Sg s'.heap b o → Sg h' b o := fun b o hb e => ⟨k b o (fun z => hb (List.mem_singleton.mp z)) e.1, e.2⟩
  have sq : SeqExt Ø s'.heap h' := fun b o _ e ⟨items, n, d⟩ => k b o (fun z => by
    rw [List.mem_singleton.mp z, e1] at e; cases e; exact e4 _ _ d) e
  have sI : ∀ b o, Sg s.heap b o → b ≠ I := fun b o e q => hI o (q ▸ e)
  obtain ⟨μ', G', K'⟩ := F'.loc.st
  refine ⟨⟨⟨μ', ?_, K'.mono (sq.weak fun _ z => z.elim)⟩, ?_, F.apart, ?_, F.own⟩, ⟨st.seq.trans (sq.weak fun _ z => z.elim), fun b o nb nm e => kx b o (sI b o e) (st.kept b o nb nm e), tab_trans st.tab tb⟩, sq, kx⟩
  · obtain ⟨m, ⟨o, es, ep, e, d, r⟩, em⟩ := G'.ns
    refine ⟨⟨m, ⟨o, es, ep, (kx _ o hIl.symm ⟨e, solid_dict d⟩).1, d, r⟩, em⟩, fun x c hx hc => ?_⟩
    obtain ⟨o, e, d⟩ := G'.cell x c hx hc
    exact ⟨o, (kx _ o (fun q => hIc x (q ▸ hc)) ⟨e, solid_cell d⟩).1, d⟩
  · obtain ⟨h₁, t₁, q₁, k₁⟩ := F'.same
    have q₂ : s'.heap = h₁ := by rw [q₁]
    refine ⟨h', tk, by rw [q₁], ⟨fun b o e => kx b o (sI b o (F.same.ext.kept b o e)) (by rw [q₂]; exact k₁.kept b o e), tab_trans (q₂ ▸ k₁.tab) tb⟩⟩
  · refine ⟨fun b z => ?_, ?_⟩
    · obtain ⟨o, e⟩ := F'.live.live b z
      obtain ⟨o', e'⟩ := F.live.live b z
      exact ⟨o, kx b o (sI b o' e') e⟩
    · obtain ⟨ps, t⟩ := F'.live.tab
      obtain ⟨m, t⟩ := tb ps t
      exact ⟨_, t⟩
theorem ex_for {ds : List Dat} {iter : Expr} {x : Str} {px : Pos} {body rest : List Stmt} {pos : Pos} {Q : Flow → Shared → Prop} (ρI : Nat → List (Str × Dat)) (Ex : Nat → Shared → Prop) (hMX : ∀ b, M b → X b) (O : EnvOk env) (F : Fm env X M s₀ s (ρI 0)) (hx : Sto env x)
    (hsrc : SrcW prog w A env X s.heap iter ds) (hE : Ex 0 s) (hEx : ∀ i s s', Ex i s → (∀ b o, M b → Sg s.heap b o → Sg s'.heap b o) → SeqExt Ø s.heap s'.heap → Ex i s')
    (turn : ∀ i d s₁ E', ds[i]? = some d → Fm env X M s₀ s₁ ((x, d) :: drop x (ρI i)) → Ex i s₁ → wpAny (model prog w) A (execs body env) (fun f s₂ => Stp env M s₁ s₂ ∧
      match f with
      | .next | .cont => Fm env X M s₀ s₂ (ρI (i + 1)) ∧ Ex (i + 1) s₂
      | .brk => Stp env M s s₂ → wpAny (model prog w) A (execs rest env) Q E s₂
      | .ret v => Q (.ret v) s₂) E' s₁)
    (done : ∀ s', Fm env X M s₀ s' (ρI ds.length) → Ex ds.length s' → Stp env M s s' → wpAny (model prog w) A (execs rest env) Q E s')
    (hs : ∀ x, foldedSetIterable iter env x = pure x) :
    wpAny (model prog w) A (execs (.For (.Name x px) iter body [] pos :: rest) env) Q E s := by
  refine wpAny_execs_cons (wpAny_For (wpAny_mono (hsrc s E F.at) (fun v s₁ q => wpAny_mono q (fun it s₂ q => ?_) fun _ _ e => e) fun _ _ e => e) hs)
  obtain ⟨k₂, I, n, P, St, rfl, hI, W, hn, hP, hSt, st⟩ := q
  obtain ⟨μ, G, K⟩ := F.loc.st
  obtain ⟨hIl, hIc⟩ := G.fresh O hI
  have hIo : ¬ Own env I := fun z => z.elim hIl fun ⟨x, e⟩ => hIc x e
  have hIX : ¬ X I := fun z => by obtain ⟨o, e⟩ := F.live.live I z; exact hI o e
  have hIM : ¬ M I := fun z => hIX (hMX _ z)
  have F₂ : Fm env X M s₀ s₂ (ρI 0) := F.kp k₂
  have hMk : ∀ {a : Shared} {h' : Heap}, (∀ b o, b ≠ I → Sg a.heap b o → Sg h' b o) → ∀ b o, M b → Sg a.heap b o → Sg h' b o := fun k b o hb e => k b o (fun q => hIM (q ▸ hb)) e
  refine codeAny_forLoop_any (fun n' s' => ∃ i, n' = ds.length - i ∧ i ≤ ds.length ∧ Fm env X M s₀ s' (ρI i) ∧ Ex i s' ∧ St i s'.heap ∧ Stp env M s s') ?_ ds.length
    ⟨0, rfl, Nat.zero_le _, F₂, hEx 0 s _ hE (fun b o _ e => k₂.ext.kept b o e) k₂.ext.seq, st, Stp.of k₂⟩
  rintro n' s' ⟨i, rfl, hi, F', hE', st', sp⟩
  by_cases hlt : i < ds.length
  · refine W.item i s' _ _ (by omega) st' fun v h' tk hp st₁ k => ?_
    obtain ⟨F₁, sp₁, sq₁, kx₁⟩ := Fm.hop (tk := tk) O F F' hI sp (hSt _ _ st') k
    have E₁ := hEx i s' { s' with heap := h', toks := tk } hE' (hMk kx₁) sq₁
    have rd := hP i v _ hp (List.getElem?_eq_getElem hlt) X h'
    have F₁' : Fm env X Ø s₀ { s' with heap := h', toks := tk } (ρI i) := ⟨F₁.loc, F₁.same, fun b hb => F₁.apart b (hb.imp id fun z => z.elim), F₁.live, F₁.own⟩
    refine let_name (wpAny_assign_Name (Fm.store O F₁' hx rd fun s₁ F₃ sp₃ => ?_))
    have E₃ := hEx i _ s₁ E₁ (fun b o hb e => sp₃.kept b o (F.own b (hMX b hb)) (fun z => z) e) sp₃.seq
    have F₄ : Fm env X M s₀ s₁ ((x, ds[i]) :: drop x (ρI i)) := ⟨F₃.loc, F₃.same, F₁.apart, F₃.live, F₃.own⟩
    have sp₄ : Stp env M s s₁ := sp₁.trans ⟨sp₃.seq.weak fun _ z => z.elim, fun b o nb _ e => sp₃.kept b o nb (fun z => z) e, sp₃.tab⟩
    have hst₁ : St (i + 1) s₁.heap := W.frame _ _ _ st₁ fun b hb o e => by
      rw [List.mem_singleton.mp hb] at e ⊢
      obtain ⟨o', e', _⟩ := hSt _ _ st₁
      exact (sp₃.kept I o hIo (fun z => z) ⟨e, by have q := e'.1; rw [e] at q; cases q; exact e'.2⟩).1
    refine wpAny_mono (turn i ds[i] s₁ _ (List.getElem?_eq_getElem hlt) F₄ E₃) (fun f s₂ q => ?_) fun _ _ e => e
    obtain ⟨sp₅, q⟩ := q
    have hst₂ : St (i + 1) s₂.heap := W.frame _ _ _ hst₁ fun b hb o e => by
      rw [List.mem_singleton.mp hb] at e ⊢
      obtain ⟨o', e', _⟩ := hSt _ _ hst₁
      exact (sp₅.kept I o hIo hIM ⟨e, by have q := e'.1; rw [e] at q; cases q; exact e'.2⟩).1
    cases f with
    | next => exact ⟨ds.length - (i + 1), by omega, i + 1, rfl, hlt, q.1, q.2, hst₂, sp₄.trans sp₅⟩
    | cont => exact ⟨ds.length - (i + 1), by omega, i + 1, rfl, hlt, q.1, q.2, hst₂, sp₄.trans sp₅⟩
    | brk => exact q (sp₄.trans sp₅)
    | ret v => exact q
  · obtain rfl : i = ds.length := by omega
    rw [hn] at st'
    refine W.done s' _ _ st' fun h' tk k => ?_
    obtain ⟨F₁, sp₁, sq₁, kx₁⟩ := Fm.hop (tk := tk) O F F' hI sp (hSt _ _ st') k
    exact wpAny_execs_nil (done _ F₁ (hEx _ s' _ hE' (hMk kx₁) sq₁) sp₁)
end
end Mine
end
section
open PySem PySem.W PyProof.Rows
set_option Elab.async false
set_option linter.unusedVariables false
namespace Mine
section
variable {prog : Program} {w : World} {A : Around} {env : Env} {X M : Addr → Prop} {h : Heap} {s s₀ : Shared} {E : Value → Shared → Prop}
theorem SrcW.str {e : Expr} {x : Str} (hh : A.handled = none) (he : EV prog w A env X h e (.str x)) : SrcW prog w A env X h e (x.cps.toList.map fun c => .str ⟨#[c]⟩) := by
  intro s E k
  refine he.now k fun v s₁ r k₁ => ?_
  cases r
  rename_i t
  have key : ∀ (T : String) (W : ∀ I : Addr, Walks prog w A I [I] [I] x.cps.size (SignAt x) (fun i h => h.IsStrIter I T x t i)), strIterType x = T →
      wpAny (model prog w) A (pyIter (.str x t)) (fun it s₂ => Kp s s₂ ∧ ∃ I n P St, it = .ref I ∧ (∀ o, ¬ Sg s.heap I o) ∧ Walks prog w A I [I] [I] n P St ∧ (x.cps.toList.map fun c => Dat.str ⟨#[c]⟩).length = n ∧
        (∀ (i : Nat) v d, P i v → (x.cps.toList.map fun c => Dat.str ⟨#[c]⟩)[i]? = some d → ∀ X' h', Rd X' h' v d) ∧ (∀ i h, St i h → ∃ o, Sg h I o ∧ Itd o ∧ ∀ items n, o.data ≠ .seq items n) ∧ St 0 s₂.heap) E s₁ := by
    intro T W hT
    refine wpAny_pyIter_strU ?_
    rw [hT]
    refine ⟨k₁.trans (Kp.push _ _), s₁.heap.objs.size, _, _, _, rfl, ?_, W _, by simp, fun i v d hp hd X' h' => ?_, fun i h' st => ?_, ⟨_, Heap.get?_push_size _ rfl, rfl, rfl⟩⟩
    · intro o e
      have := (k₁.ext.kept _ _ e).1
      rw [get_none_of_size (Nat.le_refl _)] at this; cases this
    · obtain ⟨c, u, e1, rfl⟩ := hp
      simp only [List.getElem?_map, Array.getElem?_toList, e1, Option.map_some, Option.some.injEq] at hd
      subst hd; exact .str _ _
    · obtain ⟨o, e1, e2, e3⟩ := st
      exact ⟨o, ⟨e1, solid_cls e2⟩, .inr ⟨_, e3, fun q t => by simp⟩, fun items n e => by rw [e3] at e; cases e⟩
  by_cases ha : strIterType x = "str_ascii_iterator"
  · exact key _ (fun I => Walks.strAscii hh I x t) ha
  · refine key "str_iterator" (fun I => Walks.strWide hh I x t) ?_
    unfold strIterType at ha ⊢
    split at ha
    · exact absurd rfl ha
    · rename_i q; rw [if_neg q]
theorem range_walk {s₀ : Shared} (k₁ : Kp s₀ s) {ds : List Dat} {a b : Int} {r : Addr} {t u v : Tok} (hds : ds = (List.range (b - a).toNat).map fun i : Nat => Dat.int (a + (i : Int))) (hh : A.handled = none) (hr : IsRange s.heap r a b 1 t u v) (hsm : Builtin.Range.small a b 1 = true) :
    wpAny (model prog w) A (pyIter (.ref r)) (fun it s₂ => Kp s₀ s₂ ∧ ∃ I n P St, it = .ref I ∧ (∀ o, ¬ Sg s₀.heap I o) ∧ Walks prog w A I [I] [I] n P St ∧ ds.length = n ∧
        (∀ (i : Nat) v d, P i v → ds[i]? = some d → ∀ X' h', Rd X' h' v d) ∧ (∀ i h, St i h → ∃ o, Sg h I o ∧ Itd o ∧ ∀ items n, o.data ≠ .seq items n) ∧ St 0 s₂.heap) E s := by
  subst hds
  refine wpAny_pyIter_range hr hsm ?_
  have W := Walks.range (prog := prog) (w := w) (A := A) hh s.heap.objs.size a 1 (b - a).toNat
  refine ⟨k₁.trans (Kp.push _ _), s.heap.objs.size, _, _, _, rfl, fun o e => ?_, W, by simp, fun i v d hp hd X' h' => ?_, fun i h' st => ?_, ?_⟩
  · have := (k₁.ext.kept _ _ e).1
    rw [get_none_of_size (Nat.le_refl _)] at this; cases this
  · obtain ⟨t, rfl⟩ := hp
    simp only [List.getElem?_map] at hd
    cases e1 : (List.range (b - a).toNat)[i]? with
    | none => rw [e1] at hd; cases hd
    | some j =>
      rw [e1] at hd
      obtain ⟨hj, e2⟩ := List.getElem?_eq_some_iff.mp e1
      rw [List.getElem_range] at e2
      subst e2
      simp only [Option.map_some, Option.some.injEq] at hd
      subst hd
      rw [Int.mul_one]; exact .int _ _
  · exact ⟨_, ⟨st, solid_cls rfl⟩, .inr ⟨_, rfl, fun q t => by simp [rawInt]⟩, fun items n e => by cases e⟩
  · show IsRangeIter _ _ _ _ _
    have e : Builtin.Range.rangeSize a b 1 = ((b - a).toNat : Int) := rangeSize_nat a b
    rw [e]
    have := Heap.get?_push_size s.heap (o := { cls := .type "range_iterator", data := .fields #[rawInt a, rawInt ((b - a).toNat : Int), rawInt 1] }) rfl
    simpa using this
theorem SrcW.range1 {e : Expr} {x : Str} {px pos : Pos} {b : Int} (hh : A.handled = none) (hf : EV prog w A env X h (.Name x px) (.val (.type "range"))) (he : EV prog w A env X h e (.int b)) (hsm : Builtin.Range.small 0 b 1 = true)
    (hs : starEach [e] env = [(false, eval e env)]) : SrcW prog w A env X h (.Call (.Name x px) [e] [] pos) ((List.range b.toNat).map fun i : Nat => Dat.int (i : Int)) := by
  intro s E k
  refine call_type_any k hf (.cons he .nil hs) hs (fun _ => rfl) fun s' vs k' r ks => ?_
  obtain ⟨v, rfl, rv⟩ := r.one
  cases rv
  refine call_range_1 (s := s') ?_
  exact range_walk (ks.trans ⟨_, _, rfl, Ext.push _ _⟩) (s := { s' with heap := s'.heap.push _, toks := s'.toks + 1 + 1 }) (a := 0) (b := b) (by simp) hh (Heap.get?_push_size _ rfl) hsm
theorem SrcW.range2 {e e' : Expr} {x : Str} {px pos : Pos} {a b : Int} (hh : A.handled = none) (hf : EV prog w A env X h (.Name x px) (.val (.type "range"))) (he : EV prog w A env X h e (.int a)) (he' : EV prog w A env X h e' (.int b)) (hsm : Builtin.Range.small a b 1 = true)
    (hs : starEach [e, e'] env = [(false, eval e env), (false, eval e' env)]) (hs' : starEach [e'] env = [(false, eval e' env)]) : SrcW prog w A env X h (.Call (.Name x px) [e, e'] [] pos) ((List.range (b - a).toNat).map fun i : Nat => Dat.int (a + (i : Int))) := by
  intro s E k
  refine call_type_any k hf (.cons he (.cons he' .nil hs') (by rw [hs, hs'])) (by rw [hs, hs']) (fun _ => by rw [hs']; rfl) fun s' vs k' r ks => ?_
  obtain ⟨v, u, rfl, r, r'⟩ := r.two
  cases r; cases r'
  refine call_range_2 (s := s') ?_
  exact range_walk (ks.trans ⟨_, _, rfl, Ext.push _ _⟩) (s := { s' with heap := s'.heap.push _, toks := s'.toks + 1 }) rfl hh (Heap.get?_push_size _ rfl) hsm
end
end Mine
end
section
open PySem PySem.W PyProof.Rows
set_option Elab.async false
set_option linter.unusedVariables false
namespace Mine
noncomputable def drops (xs : List Str) (ρ : List (Str × Dat)) : List (Str × Dat) := ρ.filter fun p => !xs.contains p.1
section
variable {prog : Program} {w : World} {A : Around} {env : Env} {X M : Addr → Prop} {h : Heap} {s s₀ : Shared} {E : Value → Shared → Prop} {μ : Str → Option Value} {ρ : List (Str × Dat)}
theorem Knows.puts {xs : List Str} {vs : List Value} {row : List Dat} (q : Knows X h μ ρ) (r : RdL X h vs row) (hl : vs.length = xs.length) (hn : xs.Nodup) : Knows X h (puts μ xs vs) (xs.zip row ++ drops xs ρ) := by
  obtain ⟨p1, p2⟩ := puts_look xs vs μ hl hn
  intro p hp
  rcases List.mem_append.mp hp with hp | hp
  · exact knows_zip r p1 p hp
  · obtain ⟨h1, h2⟩ := List.mem_filter.mp hp
    obtain ⟨v, a, b⟩ := q p h1
    refine ⟨v, ?_, b⟩
    rw [p2 p.1 (by simpa using h2)]; exact a
theorem Fm.asg {v : Value} {target : Expr} {xs : List Str} {d : Dat} {row : List Dat} {Q : Shared → Prop} (O : EnvOk env) (F : Fm env X M s₀ s ρ) (ha : Asg prog w A target xs X d row) (hn : xs.Nodup) (hx : ∀ x ∈ xs, Sto env x) (r : Rd X s.heap v d)
    (hQ : ∀ s', Fm env X M s₀ s' (xs.zip row ++ drops xs ρ) → Stp env M s s' → Q s') : wpAny (model prog w) A (assign target env v) (fun _ s' => Q s') E s := by
  obtain ⟨μ, G, K⟩ := F.loc.st
  obtain ⟨h₁, t₁, e₁, k₁⟩ := id F.same
  refine ha env μ s E Q v s.heap (Ext.refl _) O G hx r fun s' vs hvs hl G' hs' kk kq kt => ?_
  have sq : SeqExt Ø s.heap s'.heap := fun b o _ e q => kq b o e q
  have own : ∀ b, ¬ Own env b → ∀ x ∈ xs, ¬ Tgt env x b := fun b nb x _ z => nb z.own
  have st : Stp env M s s' := ⟨sq.weak fun _ z => z.elim, fun b o nb _ e => ⟨kk b o (own b nb) e.1, e.2⟩, kt⟩
  obtain ⟨h', tk, hs'⟩ := hs'
  refine hQ s' ⟨⟨_, G', (K.puts hvs hl hn).mono (sq.weak fun _ z => z.elim)⟩, ⟨h', tk, by rw [hs', e₁], ?_⟩, F.apart, ?_, F.own⟩ st
  · have e3 : s'.heap = h' := by rw [hs']
    rw [← e3]; exact st.ext F.same.ext F.apart
  · exact ⟨fun b z => let ⟨o, e⟩ := F.live.live b z; ⟨o, kk b o (own b (F.own b z)) e.1, e.2⟩, let ⟨ps, t⟩ := F.live.tab; let ⟨m, t⟩ := kt ps t; ⟨_, t⟩⟩
theorem ex_unpack {es : List Expr} {ek : Nat} {ep pos : Pos} {xs : List Str} {e : Expr} {d : Dat} {row : List Dat} {rest : List Stmt} {Q : Flow → Shared → Prop} (O : EnvOk env) (F : Fm env X M s₀ s ρ) (he : EV prog w A env X s.heap e d) (ha : Asg prog w A (.Tuple es ek ep) xs X d row) (hn : xs.Nodup)
    (hx : ∀ x ∈ xs, Sto env x) (hsw : swapsWithSole [.Tuple es ek ep] e pos.line env = pure false) (hss : swappedStores [.Tuple es ek ep] e env = pure none)
    (k : ∀ s', Fm env X M s₀ s' (xs.zip row ++ drops xs ρ) → Stp env M s s' → wpAny (model prog w) A (execs rest env) Q E s') : wpAny (model prog w) A (execs (.Assign [.Tuple es ek ep] e pos :: rest) env) Q E s := by
  refine wpAny_execs_cons (Assign_Tuple (he.now F.at fun v s₁ r k₁ => ?_) hsw hss)
  exact Fm.asg O (F.kp k₁) ha hn hx r fun s' F' st => k s' F' ((Stp.of k₁).trans st)
theorem stores_bind : ∀ {xs : List Str} {μ : Str → Option Value} {s : Shared} {vs : List Value} {E : Value → Shared → Prop} {Q : Shared → Prop}, EnvOk env → FS env s.heap μ → (∀ x ∈ xs, Sto env x) → vs.length = xs.length →
    (∀ s', FS env s'.heap (puts μ xs vs) → (∃ h' tk, s' = { s with heap := h', toks := tk }) → (∀ b o, (∀ x ∈ xs, ¬ Tgt env x b) → s.heap.get? b = some o → s'.heap.get? b = some o) →
      (∀ b o, s.heap.get? b = some o → (∃ items n, o.data = .seq items n) → s'.heap.get? b = some o) → (∀ ps, TabAt s.heap ps → ∃ more, TabAt s'.heap (ps ++ more)) → Q s') →
    wpAny (model prog w) A (assignInOrder (xs.map fun n => bindName env n) vs) (fun _ s' => Q s') E s
  | [], μ, s, vs, E, Q, O, F, hx, hl, hQ => by
    cases vs with
    | nil => exact assignInOrder_nil (hQ s F ⟨_, _, rfl⟩ (fun b o _ e => e) (fun b o e _ => e) (Ext.refl _).tab)
    | cons _ _ => simp at hl
  | x :: xs, μ, s, vs, E, Q, O, F, hx, hl, hQ => by
    cases vs with
    | nil => simp at hl
    | cons v vs =>
      rw [List.map_cons]
      refine assignInOrder_cons (bindName_ (Mine.store O F (hx x (.head _)) fun h' tk F' k kk kt => ?_))
      refine stores_bind (s := { s with heap := h', toks := tk }) O F' (fun y hy => hx y (.tail _ hy)) (by simpa using hl) fun s' F'' hs' k' q' t' => ?_
      obtain ⟨h'', tk', hs'⟩ := hs'
      exact hQ s' F'' ⟨h'', tk', hs'⟩ (fun b o nb e => k' b o (fun y hy => nb y (.tail _ hy)) (kk b o (nb x (.head _)) e)) (fun b o e q => q' b o (k b o (fun z => z) e q) q) (tab_trans kt t')
theorem RdL.rev {vs : List Value} {ds : List Dat} (r : RdL X h vs ds) : RdL X h vs.reverse ds.reverse := by
  induction vs generalizing ds with
  | nil => have := r.1; cases ds with | nil => exact .nil | cons _ _ => simp at this
  | cons v vs ih =>
    obtain ⟨d, ds, rfl, a, b⟩ := r.cons_inv
    rw [List.reverse_cons, List.reverse_cons]
    exact (ih b).append (.cons a .nil)
theorem ex_swap {es : List Expr} {ek : Nat} {ep pos : Pos} {xs : List Str} {e : Expr} {row : List Dat} {rest : List Stmt} {Q : Flow → Shared → Prop} (hh : A.handled = none) (O : EnvOk env) (F : Fm env X M s₀ s ρ) (he : EV prog w A env X s.heap e (.tup row)) (hn : xs.Nodup) (hl : row.length = xs.length)
    (hx : ∀ x ∈ xs, Sto env x) (hsw : swapsWithSole [.Tuple es ek ep] e pos.line env = pure false) (hss : swappedStores [.Tuple es ek ep] e env = pure (some xs))
    (k : ∀ s', Fm env X M s₀ s' (xs.reverse.zip row.reverse ++ drops xs.reverse ρ) → Stp env M s s' → wpAny (model prog w) A (execs rest env) Q E s') : wpAny (model prog w) A (execs (.Assign [.Tuple es ek ep] e pos :: rest) env) Q E s := by
  refine wpAny_execs_cons (Assign_Tuple_swapped (he.now F.at fun v s₁ r k₁ => ?_) hsw hss)
  obtain ⟨a, vs, rfl, hxa, hpl, y⟩ := r.tup_inv
  have el : xs.length = vs.toArray.size := by rw [List.size_toArray, y.1, hl]
  rw [el]
  refine unpackItems_tuple hh (t := a) (items := vs.toArray) ⟨_, hpl, rfl, 0, rfl⟩ fun h' hk => ?_
  have kx : ∀ b o, s₁.heap.get? b = some o → h'.get? b = some o := fun b o e => hk b o (Nat.ne_of_lt (Heap.lt_size e)) e
  have k₂ : Kp s₁ { s₁ with heap := h' } := ⟨h', s₁.toks, rfl, .of kx⟩
  have F₂ := F.kp (k₁.trans k₂)
  obtain ⟨μ, G, K⟩ := F₂.loc.st
  obtain ⟨h₁, t₁, e₁, _⟩ := id F₂.same
  have yr := (y.ext k₂.ext).rev
  show wpAny _ _ (assignInOrder (xs.reverse.map fun n => bindName env n) vs.reverse) _ _ _
  refine stores_bind (s := { s₁ with heap := h' }) O G (fun x hx' => hx x (List.mem_reverse.mp hx')) (by rw [List.length_reverse, List.length_reverse, y.1, hl]) fun s' G' hs' kk kq kt => ?_
  have sq : SeqExt Ø h' s'.heap := fun b o _ e q => kq b o e q
  have own : ∀ b, ¬ Own env b → ∀ x ∈ xs.reverse, ¬ Tgt env x b := fun b nb x _ z => nb z.own
  have st : Stp env M { s₁ with heap := h' } s' := ⟨sq.weak fun _ z => z.elim, fun b o nb _ e => ⟨kk b o (own b nb) e.1, e.2⟩, kt⟩
  obtain ⟨h₃, tk, hs'⟩ := hs'
  refine k s' ⟨⟨_, G', (K.puts yr (by rw [List.length_reverse, List.length_reverse, y.1, hl]) (List.pairwise_reverse.mpr (hn.imp fun h => Ne.symm h))).mono (sq.weak fun _ z => z.elim)⟩, ⟨h₃, tk, by rw [hs', e₁], ?_⟩, F.apart, ?_, F.own⟩ ((Stp.of (k₁.trans k₂)).trans st)
  · have e3 : s'.heap = h₃ := by rw [hs']
    rw [← e3]; exact st.ext F₂.same.ext F.apart
  · exact ⟨fun b z => let ⟨o, e⟩ := F₂.live.live b z; ⟨o, kk b o (own b (F.own b z)) e.1, e.2⟩, let ⟨ps, t⟩ := F₂.live.tab; let ⟨m, t⟩ := kt ps t; ⟨_, t⟩⟩
end
end Mine
end
section
open PySem PySem.W PyProof.Rows
set_option Elab.async false
set_option linter.unusedVariables false
namespace Mine
section
variable {prog : Program} {w : World} {A : Around} {env : Env} {X M : Addr → Prop} {h : Heap} {s s₀ : Shared} {E : Value → Shared → Prop} {μ : Str → Option Value} {ρ : List (Str × Dat)}
theorem Fm.hop1 {ρ' : List (Str × Dat)} {s' : Shared} {I : Addr} {h' : Heap} {tk : Nat} (F' : Fm env X M s₀ s' ρ') (hIl : I ≠ env.locals) (hIc : ∀ x, env.cells.lookup x ≠ some I) (hIX : ¬ X I) (hI0 : ∀ o, ¬ Sg s₀.heap I o)
    (hSt : ∃ o, Sg s'.heap I o ∧ Itd o ∧ ∀ items n, o.data ≠ .seq items n) (k : ∀ b o, b ∉ [I] → s'.heap.get? b = some o → h'.get? b = some o) :
    Fm env X M s₀ { s' with heap := h', toks := tk } ρ' ∧ SeqExt Ø s'.heap h' ∧ (∀ b o, b ≠ I → Sg s'.heap b o → Sg h' b o) ∧ (∀ ps, TabAt s'.heap ps → ∃ more, TabAt h' (ps ++ more)) := by
  obtain ⟨oI, ⟨e1, e2⟩, e3, e4⟩ := hSt
  have tb := tab_wr (h' := h') (wr := [I]) (fun b hb => by rw [List.mem_singleton.mp hb]; exact ⟨oI, ⟨e1, e2⟩, e3⟩) k
  have kx : ∀ b o, b ≠ I → Sg s'.heap b o → Sg h' b o := fun b o hb e => ⟨k b o (fun z => hb (List.mem_singleton.mp z)) e.1, e.2⟩
  have sq : SeqExt Ø s'.heap h' := fun b o _ e ⟨items, n, d⟩ => k b o (fun z => by
    rw [List.mem_singleton.mp z, e1] at e; cases e; exact e4 _ _ d) e
  obtain ⟨μ', G', K'⟩ := F'.loc.st
  refine ⟨⟨⟨μ', ?_, K'.mono (sq.weak fun _ z => z.elim)⟩, ?_, F'.apart, ?_, F'.own⟩, sq, kx, tb⟩
  · obtain ⟨m, ⟨o, es, ep, e, d, r⟩, em⟩ := G'.ns
    refine ⟨⟨m, ⟨o, es, ep, (kx _ o hIl.symm ⟨e, solid_dict d⟩).1, d, r⟩, em⟩, fun x c hx hc => ?_⟩
    obtain ⟨o, e, d⟩ := G'.cell x c hx hc
    exact ⟨o, (kx _ o (fun q => hIc x (q ▸ hc)) ⟨e, solid_cell d⟩).1, d⟩
  · obtain ⟨h₁, t₁, q₁, k₁⟩ := F'.same
    have q₂ : s'.heap = h₁ := by rw [q₁]
    refine ⟨h', tk, by rw [q₁], ⟨fun b o e => kx b o (fun q => hI0 o (q ▸ e)) (by rw [q₂]; exact k₁.kept b o e), tab_trans (q₂ ▸ k₁.tab) tb⟩⟩
  · refine ⟨fun b z => ?_, ?_⟩
    · obtain ⟨o, e⟩ := F'.live.live b z
      exact ⟨o, kx b o (fun q => hIX (q ▸ z)) e⟩
    · obtain ⟨ps, t⟩ := F'.live.tab
      obtain ⟨m, t⟩ := tb ps t
      exact ⟨_, t⟩
theorem ex_forR {ι : Type} (r₀ : ι) (XI MI : ι → Addr → Prop) {ds : List Dat} {iter : Expr} {x : Str} {px : Pos} {body rest : List Stmt} {pos : Pos} {Q : Flow → Shared → Prop} (ρI : Nat → ι → List (Str × Dat)) (Ex : Nat → ι → Shared → Prop) (hMX : ∀ r b, MI r b → XI r b) (O : EnvOk env)
    (F : Fm env (XI r₀) (MI r₀) s₀ s (ρI 0 r₀)) (hx : Sto env x) (hsrc : SrcW prog w A env (XI r₀) s.heap iter ds) (hE : Ex 0 r₀ s)
    (hseq : ∀ i r s' b, Ex i r s' → XI r b → XI r₀ b ∨ ((∀ o, ¬ Sg s.heap b o) ∧ ∃ o items n, s'.heap.get? b = some o ∧ o.data = .seq items n))
    (hseqM : ∀ i r s' b, Ex i r s' → MI r b → MI r₀ b ∨ ∀ o, ¬ Sg s.heap b o)
    (hEx : ∀ i r s s', Ex i r s → (∀ b o, XI r b → Sg s.heap b o → Sg s'.heap b o) → SeqExt Ø s.heap s'.heap → Ex i r s')
    (turn : ∀ i d r s₁ E', ds[i]? = some d → Fm env (XI r) (MI r) s₀ s₁ ((x, d) :: drop x (ρI i r)) → Ex i r s₁ → Stp env (MI r₀) s s₁ → wpAny (model prog w) A (execs body env) (fun f s₂ => Stp env (MI r) s₁ s₂ ∧
      match f with
      | .next | .cont => ∃ r', Fm env (XI r') (MI r') s₀ s₂ (ρI (i + 1) r') ∧ Ex (i + 1) r' s₂
      | .brk => Stp env (MI r₀) s s₂ → wpAny (model prog w) A (execs rest env) Q E s₂
      | .ret v => Q (.ret v) s₂) E' s₁)
    (done : ∀ s' r, Fm env (XI r) (MI r) s₀ s' (ρI ds.length r) → Ex ds.length r s' → Stp env (MI r₀) s s' → wpAny (model prog w) A (execs rest env) Q E s')
    (hs : ∀ x, foldedSetIterable iter env x = pure x) :
    wpAny (model prog w) A (execs (.For (.Name x px) iter body [] pos :: rest) env) Q E s := by
  refine wpAny_execs_cons (wpAny_For (wpAny_mono (hsrc s E F.at) (fun v s₁ q => wpAny_mono q (fun it s₂ q => ?_) fun _ _ e => e) fun _ _ e => e) hs)
  obtain ⟨k₂, I, n, P, St, rfl, hI, W, hn, hP, hSt, st⟩ := q
  obtain ⟨μ, G, K⟩ := F.loc.st
  obtain ⟨hIl, hIc⟩ := G.fresh O hI
  have hIo : ¬ Own env I := fun z => z.elim hIl fun ⟨x, e⟩ => hIc x e
  have hIX₀ : ¬ XI r₀ I := fun z => by obtain ⟨o, e⟩ := F.live.live I z; exact hI o e
  have hIX : ∀ i r s', Ex i r s' → (∃ i, St i s'.heap) → ¬ XI r I := fun i r s' e ⟨j, st⟩ z => by
    rcases hseq i r s' I e z with z | ⟨_, o, items, n, e1, e2⟩
    · exact hIX₀ z
    · obtain ⟨o', ⟨e3, _⟩, _, e4⟩ := hSt _ _ st
      rw [e1] at e3; cases e3; exact e4 _ _ e2
  have hI0 : ∀ o, ¬ Sg s₀.heap I o := fun o e => hI o (F.same.ext.kept _ _ e)
  have F₂ : Fm env (XI r₀) (MI r₀) s₀ s₂ (ρI 0 r₀) := F.kp k₂
  have up : ∀ i r s' (a b : Shared), Ex i r s' → Stp env (MI r₀) s a → (∀ b' o, ¬ Own env b' → ¬ MI r b' → b' ≠ I → Sg a.heap b' o → Sg b.heap b' o) → SeqExt (MI r) a.heap b.heap → (∀ ps, TabAt a.heap ps → ∃ more, TabAt b.heap (ps ++ more)) → Stp env (MI r₀) s b := by
    intro i r s' a b e st k q t
    refine ⟨fun b' o nb e1 sq => ?_, fun b' o nb nm e1 => ?_, tab_trans st.tab t⟩
    · obtain ⟨_, _, d⟩ := sq
      refine q b' o (fun z => ?_) (st.seq b' o nb e1 ⟨_, _, d⟩) ⟨_, _, d⟩
      rcases hseqM i r s' b' e z with z | z
      · exact nb z
      · exact z o ⟨e1, solid_seq d⟩
    · refine k b' o nb (fun z => ?_) (fun z => hI o (z ▸ e1)) (st.kept b' o nb nm e1)
      rcases hseqM i r s' b' e z with z | z
      · exact nm z
      · exact z o e1
  refine codeAny_forLoop_any (fun n' s' => ∃ i r, n' = ds.length - i ∧ i ≤ ds.length ∧ Fm env (XI r) (MI r) s₀ s' (ρI i r) ∧ Ex i r s' ∧ St i s'.heap ∧ Stp env (MI r₀) s s') ?_ ds.length
    ⟨0, r₀, rfl, Nat.zero_le _, F₂, hEx 0 r₀ s _ hE (fun b o _ e => k₂.ext.kept b o e) k₂.ext.seq, st, Stp.of k₂⟩
  rintro n' s' ⟨i, r, rfl, hi, F', hE', st', sp⟩
  have hIr : ¬ XI r I := hIX i r s' hE' ⟨i, st'⟩
  have hIMr : ¬ MI r I := fun z => hIr (hMX r I z)
  have hXk : ∀ {a : Shared} {h' : Heap}, (∀ b o, b ≠ I → Sg a.heap b o → Sg h' b o) → ∀ b o, XI r b → Sg a.heap b o → Sg h' b o := fun k b o hb e => k b o (fun q => hIr (q ▸ hb)) e
  by_cases hlt : i < ds.length
  · refine W.item i s' _ _ (by omega) st' fun v h' tk hp st₁ k => ?_
    obtain ⟨F₁, sq₁, kx₁, tb₁⟩ := Fm.hop1 (tk := tk) F' hIl hIc hIr hI0 (hSt _ _ st') k
    have E₁ := hEx i r s' { s' with heap := h', toks := tk } hE' (hXk kx₁) sq₁
    have sp₁ : Stp env (MI r₀) s { s' with heap := h', toks := tk } := up i r s' s' _ hE' sp (fun b o _ _ nI e => kx₁ b o nI e) (sq₁.weak fun _ z => z.elim) tb₁
    have rd := hP i v _ hp (List.getElem?_eq_getElem hlt) (XI r) h'
    have F₁' : Fm env (XI r) Ø s₀ { s' with heap := h', toks := tk } (ρI i r) := ⟨F₁.loc, F₁.same, fun b hb => F₁.apart b (hb.imp id fun z => z.elim), F₁.live, F₁.own⟩
    refine let_name (wpAny_assign_Name (Fm.store O F₁' hx rd fun s₁ F₃ sp₃ => ?_))
    have E₃ := hEx i r _ s₁ E₁ (fun b o hb e => sp₃.kept b o (F'.own b hb) (fun z => z) e) sp₃.seq
    have F₄ : Fm env (XI r) (MI r) s₀ s₁ ((x, ds[i]) :: drop x (ρI i r)) := ⟨F₃.loc, F₃.same, F₁.apart, F₃.live, F₃.own⟩
    have sp₄ : Stp env (MI r₀) s s₁ := up i r s' _ s₁ hE' sp₁ (fun b o nb _ _ e => sp₃.kept b o nb (fun z => z) e) (sp₃.seq.weak fun _ z => z.elim) sp₃.tab
    have hst₁ : St (i + 1) s₁.heap := W.frame _ _ _ st₁ fun b hb o e => by
      rw [List.mem_singleton.mp hb] at e ⊢
      obtain ⟨o', e', _⟩ := hSt _ _ st₁
      exact (sp₃.kept I o hIo (fun z => z) ⟨e, by have q := e'.1; rw [e] at q; cases q; exact e'.2⟩).1
    refine wpAny_mono (turn i ds[i] r s₁ _ (List.getElem?_eq_getElem hlt) F₄ E₃ sp₄) (fun f s₂ q => ?_) fun _ _ e => e
    obtain ⟨sp₅, q⟩ := q
    have hst₂ : St (i + 1) s₂.heap := W.frame _ _ _ hst₁ fun b hb o e => by
      rw [List.mem_singleton.mp hb] at e ⊢
      obtain ⟨o', e', _⟩ := hSt _ _ hst₁
      exact (sp₅.kept I o hIo hIMr ⟨e, by have q := e'.1; rw [e] at q; cases q; exact e'.2⟩).1
    have sp₆ : Stp env (MI r₀) s s₂ := up i r s' s₁ s₂ hE' sp₄ (fun b o nb nm _ e => sp₅.kept b o nb nm e) sp₅.seq sp₅.tab
    cases f with
    | next => obtain ⟨r', q1, q2⟩ := q; exact ⟨ds.length - (i + 1), by omega, i + 1, r', rfl, hlt, q1, q2, hst₂, sp₆⟩
    | cont => obtain ⟨r', q1, q2⟩ := q; exact ⟨ds.length - (i + 1), by omega, i + 1, r', rfl, hlt, q1, q2, hst₂, sp₆⟩
    | brk => exact q sp₆
    | ret v => exact q
  · obtain rfl : i = ds.length := by omega
    rw [hn] at st'
    refine W.done s' _ _ st' fun h' tk k => ?_
    obtain ⟨F₁, sq₁, kx₁, tb₁⟩ := Fm.hop1 (tk := tk) F' hIl hIc hIr hI0 (hSt _ _ st') k
    exact wpAny_execs_nil (done _ r F₁ (hEx _ r s' _ hE' (hXk kx₁) sq₁) (up _ r s' s' _ hE' sp (fun b o _ _ nI e => kx₁ b o nI e) (sq₁.weak fun _ z => z.elim) tb₁))
end
end Mine
end
section
open PySem PySem.W PyProof.Rows
set_option Elab.async false
set_option linter.unusedVariables false
namespace Mine
section
variable {prog : Program} {w : World} {A : Around} {env : Env} {X M X₀ : Addr → Prop} {h : Heap} {s s₀ : Shared} {E : Value → Shared → Prop} {μ : Str → Option Value} {ρ : List (Str × Dat)}
theorem setItem_plain {l : Addr} {items : Array Value} {k : Int} {t : Tok} {v : Value} {Q : Unit → Shared → Prop} (hl : s.heap.PlainList l items) (h0 : 0 ≤ k) (hfit : k < 2 ^ 63) (hn : k < items.size)
    (hQ : ∀ h', h'.PlainList l (items.setIfInBounds k.toNat v) → Heap.SameBut l s.heap h' → Q () { s with heap := h' }) : wpAny (model prog w) A (setItem (.ref l) (.int k t) v) Q E s := by
  obtain ⟨n, ho⟩ := id hl
  unfold setItem
  try with_reducible refine wpAny_holding ?_
  first | refine wpAny_bind (wpAny_pure ?_) | skip
  refine wpAny_bind (wpAny_sequenceKey hl.isList.typeIs (by decide) ?_)
  refine wpAny_bind (wpAny_callSpecial?_slot (name := Str.ofString "__setitem__") hl.isList.typeIs slot_list_setitem
    (wpAny_call_entry slot_list_setitem hl.isList.typeIs entry_list_setitem ?_ (args_list_setitem _ _ _)))
  show wpAny _ _ (Builtin.List.listSubscript? (.int k t) >>= _) _ _ s
  refine wpAny_bind (wpAny_listSubscript_int (fitsIndex_of h0 hfit) ?_)
  clear hfit
  obtain ⟨j, rfl⟩ := Int.eq_ofNat_of_zero_le h0
  have hj : j < items.size := by omega
  have hx' : items[j]? = some items[j] := Array.getElem?_eq_getElem hj
  show wpAny _ _ ((seqItemAt l j >>= fun r => pure (r.map (j, ·))) >>= _) _ _ s
  refine wpAny_bind (wpAny_bind (wpAny_seqItemAt ho rfl (wpAny_pure ?_)))
  rw [hx']
  show wpAny _ _ (setSeqItemAt l j v >>= _) _ _ s
  have hfin : (s.heap.update l (Obj.mapSeq (·.setIfInBounds j v))).PlainList l (items.setIfInBounds j v) :=
    ⟨if (items.setIfInBounds j v).size == items.size then n else n + 1, Heap.get?_update_self _ ho rfl⟩
  refine wpAny_bind (wpAny_setSeqItemAt ho rfl ?_)
  first
    | exact wpAny_bind (wpAny_pure (wpAny_pure ⟨.none, rfl, wpAny_pure (hQ _ hfin (Heap.SameBut.update ..))⟩))
    | exact wpAny_pure ⟨.none, rfl, wpAny_pure (hQ _ hfin (Heap.SameBut.update ..))⟩
theorem EV.flat {e : Expr} {d : Dat} (x : EV prog w A env X₀ h e d) (f : d.flat) (hX : ∀ b, X₀ b → X b) : EV prog w A env X h e d := fun s E k =>
  wpAny_mono (x s E ⟨k.ext, fun b z => k.live.live b (hX b z), k.live.tab⟩) (fun v s' q => ⟨q.1.flat f, q.2⟩) fun _ _ e => e
theorem TV.region {e : Expr} {b : Bool} (x : TV prog w A env X₀ h e b) (hX : ∀ b, X₀ b → X b) : TV prog w A env X h e b := fun s E k => x s E ⟨k.ext, fun b z => k.live.live b (hX b z), k.live.tab⟩
theorem Loc.lend {l : Addr} {vs : List Value} {ds : List Dat} {x : Str} (L : Loc env X h ρ) (hX : ∀ b, X₀ b → X b) (hv : ρ.lookup x = some (.val (.ref l))) (hl : h.PlainList l vs.toArray) (hr : RdL X₀ h vs ds) (hl0 : ¬ X₀ l) : Loc env X₀ h ((x, .list ds) :: drop x ρ) := by
  obtain ⟨μ, G, K⟩ := L.st
  refine ⟨μ, G, fun p hp => ?_⟩
  rcases List.mem_cons.mp hp with rfl | hp
  · obtain ⟨v, e, r⟩ := K _ (mem_of_look hv)
    cases r
    exact ⟨_, e, .ofList hl0 hl hr⟩
  · obtain ⟨v, e, r⟩ := K p (List.mem_filter.mp hp).1
    exact ⟨v, e, r.weak hX⟩
theorem Loc.weak (L : Loc env X h ρ) (hX : ∀ b, X₀ b → X b) : Loc env X₀ h ρ := let ⟨μ, G, K⟩ := L.st; ⟨μ, G, fun p hp => let ⟨v, e, r⟩ := K p hp; ⟨v, e, r.weak hX⟩⟩
theorem Fm.turn {s' : Shared} {l : Addr} {items ys : Array Value} (F : Fm env X M s₀ s ρ) (hl : s.heap.PlainList l items) (hM : M l) {h' : Heap} {tk : Nat} (hl' : h'.PlainList l ys) (hs : Heap.SameBut l s.heap h') (hXl : X l) :
    Fm env X M s₀ { s with heap := h', toks := tk } ρ ∧ Stp env M s { s with heap := h', toks := tk } := by
  obtain ⟨n, ho⟩ := hl
  obtain ⟨n', ho'⟩ := hl'
  have hlo : ¬ Own env l := F.own l hXl
  obtain ⟨μ, G, K⟩ := F.loc.st
  have tb : ∀ ps, TabAt s.heap ps → ∃ more, TabAt h' (ps ++ more) := Ext.tabBut ho (solid_cls rfl) (by nofun) fun b o hb e => (hs.2 b hb).trans e
  have st : Stp env M s { s with heap := h', toks := tk } := ⟨fun b o nb e _ => (hs.2 b (fun q => nb (q ▸ hM))).trans e, fun b o nb nm e => ⟨(hs.2 b (fun q => nm (q ▸ hM))).trans e.1, e.2⟩, tb⟩
  obtain ⟨h₁, t₁, e₁, _⟩ := id F.same
  refine ⟨⟨⟨μ, ?_, K.mono fun b o nb e _ => (hs.2 b (fun q => nb (q ▸ hXl))).trans e⟩, ⟨h', tk, by rw [e₁], st.ext F.same.ext F.apart⟩, F.apart, ?_, F.own⟩, st⟩
  · refine G.sameBut hs (fun q => hlo (.inl q.symm)) fun x c _ hc q => hlo (.inr ⟨x, q ▸ hc⟩)
  · refine ⟨fun b z => ?_, let ⟨ps, t⟩ := F.live.tab; let ⟨m, t⟩ := tb ps t; ⟨_, t⟩⟩
    by_cases q : b = l
    · subst q; exact ⟨_, ho', solid_cls rfl⟩
    · obtain ⟨o, e⟩ := F.live.live b z
      exact ⟨o, (hs.2 b q).trans e.1, e.2⟩
theorem ex_setItem {x : Str} {px ps pos : Pos} {idx e : Expr} {i : Int} {d : Dat} {l : Addr} {vs : List Value} {rest : List Stmt} {Q : Flow → Shared → Prop} (F : Fm env X M s₀ s ρ) (hM : M l) (hXl : X l) (hk : env.scope.kind = .function)
    (hv : ρ.lookup x = some (.val (.ref l))) (hrx : Rea env x) (hd : (x == ("__debug__" : Str) || x == ("__classdict__" : Str)) = false) (hl : s.heap.PlainList l vs.toArray)
    (he : EV prog w A env X s.heap e d) (hi : EV prog w A env X s.heap idx (.int i)) (h0 : 0 ≤ i) (hfit : i < 2 ^ 63) (hn : i < vs.length) (hsw : swapsWith e (some (.Subscript (.Name x px) idx ps)) pos.line env = pure false)
    (k : ∀ s' v, Fm env X M s₀ s' ρ → Stp env M s s' → Rd X s'.heap v d → s'.heap.PlainList l (vs.set i.toNat v).toArray → wpAny (model prog w) A (execs rest env) Q E s') :
    wpAny (model prog w) A (execs (.Assign [.Subscript (.Name x px) idx ps] e pos :: rest) env) Q E s := by
  refine wpAny_execs_cons (wpAny_Assign_Subscript (he.now F.at fun v s₁ r k₁ => ?_) hsw)
  have F₁ := F.kp k₁
  refine Gv.now (EV.name F₁.loc hk hv hrx hd) F₁.at fun ov s₂ r₂ k₂ => ?_
  cases r₂
  have F₂ := F₁.kp k₂
  refine Gv.now ((hi.mono k₁.ext).mono k₂.ext) F₂.at fun iv s₃ r₃ k₃ => ?_
  cases r₃
  have F₃ := F₂.kp k₃
  have hl₃ : s₃.heap.PlainList l vs.toArray := plainExt (plainExt (plainExt hl k₁.ext) k₂.ext) k₃.ext
  refine setItem_plain hl₃ h0 hfit (by simpa using hn) fun h' hl' hs' => ?_
  obtain ⟨F₄, st⟩ := Fm.turn (s' := s₃) (tk := s₃.toks) F₃ hl₃ hM hl' hs' hXl
  refine k _ v F₄ ((Stp.of ((k₁.trans k₂).trans k₃)).trans st) (((r.ext k₂.ext).ext k₃.ext).mono fun b o nb e _ => (hs'.2 b (fun q => nb (q ▸ hXl))).trans e) ?_
  have e : (vs.toArray.setIfInBounds i.toNat v) = (vs.set i.toNat v).toArray := by simp
  rw [← e]; exact hl'
end
end Mine
end
section
open PySem PySem.W PyProof.Rows
set_option Elab.async false
set_option linter.unusedVariables false
namespace Mine
section
variable {prog : Program} {w : World} {A : Around} {env : Env} {X M X₀ : Addr → Prop} {h : Heap} {s s₀ : Shared} {E : Value → Shared → Prop} {μ : Str → Option Value} {ρ : List (Str × Dat)}
theorem ex_append {x : Str} {px apos cpos pos : Pos} {e : Expr} {d : Dat} {l : Addr} {vs : List Value} {rest : List Stmt} {Q : Flow → Shared → Prop} (F : Fm env X M s₀ s ρ) (hM : M l) (hXl : X l) (hk : env.scope.kind = .function)
    (hv : ρ.lookup x = some (.val (.ref l))) (hrx : Rea env x) (hd : (x == ("__debug__" : Str) || x == ("__classdict__" : Str)) = false) (hl : s.heap.PlainList l vs.toArray) (hn : vs.length ≤ sizeLine)
    (he : EV prog w A env X s.heap e d) (hse : starEach [e] env = [(false, eval e env)])
    (hfew : ((backTo cpos (starEach [e] env)).all (fun x => !x.1) && (backToKw cpos (keywordEach [] env)).all (fun x => x.1.isSome) && decide ([e].length + ([] : List Keyword).length + (if ([] : List Keyword).isEmpty then 0 else 1) < 30)) = true)
    (hline : (apos.endLine == cpos.line) = true) (hbase : attributeBase (.Name x px) "append" env (eval (.Name x px) env) = eval (.Name x px) env) (hi : interactive env = false) (hsw : swapsWith (.Call (.Attribute (.Name x px) "append" apos) [e] [] cpos) none pos.line env = pure false)
    (k : ∀ s' v, Fm env X M s₀ s' ρ → Stp env M s s' → Rd X s'.heap v d → s'.heap.PlainList l (vs ++ [v]).toArray → wpAny (model prog w) A (execs rest env) Q E s') :
    wpAny (model prog w) A (execs (.Expr (.Call (.Attribute (.Name x px) "append" apos) [e] [] cpos) pos :: rest) env) Q E s := by
  refine wpAny_execs_cons (wpAny_Expr_any ?_ hi hsw)
  refine wpAny_Call_method hbase hfew hline PySem.F.plainAttrs_list PySem.F.slot_list_append PySem.F.type_list_append ?_
  refine Gv.now (EV.name F.loc hk hv hrx hd) F.at fun ov s₁ r₁ k₁ => ?_
  cases r₁
  have F₁ := F.kp k₁
  have hl₁ := plainExt hl k₁.ext
  refine ⟨hl₁.isList.typeIs, fun a q => by cases q; obtain ⟨n, e⟩ := hl₁; exact ⟨_, e, rfl⟩, callWith_first ?_ hse (by rfl)⟩
  have hev : EVs prog w A env X s.heap [e] [d] := .cons he .nil hse
  refine wpAny_mono (hev cpos s₁ E (F.at.go k₁.ext)) (fun us s₂ q => ?_) fun _ _ e => e
  obtain ⟨q, k₂⟩ := q
  obtain ⟨v, rfl, r⟩ := q.one
  have F₂ := F₁.kp k₂
  have hl₂ := plainExt hl₁ k₂.ext
  refine wpAny_list_append_plain (l := l) (x := v) (hsz := by simpa using hn) hl₂ fun h' hl' hs' => ?_
  obtain ⟨F₄, st⟩ := Fm.turn (s' := s₂) (tk := s₂.toks) F₂ hl₂ hM hl' hs' hXl
  refine k _ v F₄ ((Stp.of (k₁.trans k₂)).trans st) (r.mono fun b o nb e _ => (hs'.2 b (fun q => nb (q ▸ hXl))).trans e) ?_
  have e : (vs.toArray.push v) = (vs ++ [v]).toArray := by simp
  rw [← e]; exact hl'
theorem ex_multi3 {x y z : Str} {px py pz pos : Pos} {e : Expr} {d : Dat} {rest : List Stmt} {Q : Flow → Shared → Prop} (O : EnvOk env) (F : Fm env X M s₀ s ρ) (he : EV prog w A env X s.heap e d) (hf : d.flat) (hx : Sto env x) (hy : Sto env y) (hz : Sto env z)
    (k : ∀ s', Fm env X M s₀ s' ((z, d) :: drop z ((y, d) :: drop y ((x, d) :: drop x ρ))) → Stp env M s s' → wpAny (model prog w) A (execs rest env) Q E s') :
    wpAny (model prog w) A (execs (.Assign [.Name x px, .Name y py, .Name z pz] e pos :: rest) env) Q E s := by
  refine wpAny_execs_cons ?_
  rw [arm_exec_Assign]
  refine wpAny_bind (wpAny_standAt (wpAny_bind (m := (pure false : Sem Bool)) (wpAny_pure ?_)))
  rw [if_neg Bool.false_ne_true]
  refine wpAny_bind (he.now F.at fun v s₁ r k₁ => ?_)
  refine wpAny_bind (m := (pure none : Sem (Option (List Str)))) (wpAny_pure ?_)
  show wpAny _ _ (assignAll v [assign (.Name x px) env, assign (.Name y py) env, assign (.Name z pz) env] >>= fun _ => pure Flow.next) _ _ _
  refine wpAny_bind ?_
  show wpAny _ _ (holding [v] (assign (.Name x px) env v) >>= fun _ => holding [v] (assign (.Name y py) env v) >>= fun _ => assign (.Name z pz) env v) _ _ _
  refine wpAny_bind (wpAny_holding (wpAny_assign_Name (Fm.store O (F.kp k₁) hx r fun s₂ F₂ st₂ => ?_)))
  refine wpAny_bind (wpAny_holding (wpAny_assign_Name (Fm.store O F₂ hy (r.flat hf) fun s₃ F₃ st₃ => ?_)))
  exact wpAny_assign_Name (Fm.store O F₃ hz (r.flat hf) fun s₄ F₄ st₄ => wpAny_pure (k s₄ F₄ (((Stp.of k₁).trans st₂).trans (st₃.trans st₄))))
end
end Mine
end
section
open PySem PySem.W PyProof.Rows
set_option Elab.async false
set_option linter.unusedVariables false
namespace Mine
section
variable {prog : Program} {w : World} {A : Around} {env : Env} {X M X₀ : Addr → Prop} {h : Heap} {s s₀ : Shared} {E : Value → Shared → Prop} {K : Frag} {C x : Addr}
theorem inst_set {od od' : Obj} {dx : Addr} {name : Str} {v : Value} {es : List DictEntry} {n : Nat} {Q : Unit → Shared → Prop} (Kx : K.In s.heap) (hx : s.heap.get? x = some (instObj C dx)) (hdx : s.heap.get? dx = some od)
    (hs : findIn K (.ref C) "__setattr__" = some (some (.builtin "object.__setattr__"))) (hp : plainOver K C = true) (ht : takerIn K C name = some none) (hh : (clsIn K C).any (·.hasDict) = true)
    (hl : (lookIn name od).isSome = true) (e : Obj.putName name (PyData.keyHash w.params name) (.str name (s.toks + 1)) v od = od') (e' : od'.data = .dict es.toArray n) (hz : es.length ≤ 1000)
    (hQ : ∀ h', h'.get? dx = some od' → Heap.SameBut dx s.heap h' → Q () { s with heap := h', toks := s.toks + 1 + 1 }) : wpAny (model prog w) A (setAttr (.ref x) name v) Q E s := by
  have I : InstAt s.heap x (instObj C dx) C (some od) := ⟨hx, rfl, rfl, hdx⟩
  refine set_plain Kx I hs (osa_open (s := { s with toks := s.toks + 1 }) Kx I hp ht fun b => ?_)
  obtain ⟨cd, hc, hd'⟩ := any_some hh
  refine wpAny_bind (wpAny_pure (wpAny_bind (wpAny_bind (wpAny_loadPart hx (wpAny_bind (Looks.here (s := { s with toks := s.toks + 1 }) (looks_clsIn Kx hc) ?_))))))
  rw [hd']
  refine wpAny_pure (a := some dx) (wpAny_bind (wpAny_pure (wpAny_bind ?_)))
  unfold nsSet
  refine wpAny_bind (wpAny_bind (wpAny_askSetting (wpAny_pure (wpAny_bind (wpAny_mkText (wpAny_bind (wpAny_loadPart hdx ?_)))))))
  have D' : (s.heap.update dx (Obj.putName name (PyData.keyHash w.params name) (.str name (s.toks + 1)) v)).get? dx = some od' := by
    rw [← e]; exact Heap.get?_update_self _ hdx (by rw [e]; obtain ⟨_, _, dd, _⟩ := od'; cases e'; rfl)
  unfold lookIn at hl
  split at hl
  · rename_i es₀ n₀ q
    rw [q]
    dsimp only
    have c : (!es₀.any (·.key.isStr name) && es₀.any (·.refKey)) = false := by
      rw [← Array.any_toList, ← Array.any_toList]
      split at hl
      · rename_i en he
        rw [List.any_eq_true.mpr ⟨en, List.mem_of_find?_eq_some he, List.find?_some he⟩]; rfl
      · split at hl
        · cases hl
        · rename_i z; rw [Bool.not_eq_true] at z; rw [z, Bool.and_false]
    rw [aRefKeyMayBeTheName_at, c]
    refine wpAny_updatePart hdx ?_
    refine wpAny_bind (wpAny_lookBehind D' (by rw [e']; exact pastItsLine_dict (by rw [List.size_toArray, sizeLine_eq]; omega)) ?_)
    exact wpAny_pure (hQ _ D' (Heap.SameBut.update ..))
  · cases hl
end
end Mine
end
section
open PySem PySem.W PyProof.Rows
set_option Elab.async false
set_option linter.unusedVariables false
namespace Mine
section
variable {prog : Program} {w : World} {A : Around} {env : Env} {X M X₀ : Addr → Prop} {h : Heap} {s s₀ : Shared} {E : Value → Shared → Prop} {K : Frag} {C x : Addr}
noncomputable def KIn (K : Frag) (h : Heap) : Prop := ∀ a o, K.lookup a = some o → Sg h a o
theorem KIn.ext {h h' : Heap} (x : KIn K h) (k : Ext h h') : KIn K h' := fun a o e => k.kept _ _ (x a o e)
theorem KIn.in (x : KIn K h) : K.In h := fun a o e => (x a o e).1
structure Ins (h : Heap) (x C : Addr) (od : Obj) : Prop where
  at_ : ∃ dx, Sg h x (instObj C dx) ∧ Sg h dx od
theorem Ins.ext {h h' : Heap} {od : Obj} (i : Ins h x C od) (k : Ext h h') : Ins h' x C od := ⟨let ⟨dx, a, b⟩ := i.at_; ⟨dx, k.kept _ _ a, k.kept _ _ b⟩⟩
theorem Ins.inst {od : Obj} (i : Ins h x C od) : ∃ ox, InstAt h x ox C (some od) := let ⟨dx, a, b⟩ := i.at_; ⟨_, a.1, rfl, rfl, b.1⟩
theorem EV.attr {o : Expr} {name : Str} {pos : Pos} {od : Obj} {v : Value} {d : Dat} (ho : EV prog w A env X h o (.val (.ref x))) (hK : KIn K h) (hi : Ins h x C od) (hbase : attributeBase o name env (eval o env) = eval o env)
    (hga : findIn K (.ref C) "__getattribute__" = some (some (.builtin "object.__getattribute__"))) (hf : findObj K C (some od) name = some (.value v)) (hh : handedIn v = true) (r : Rd X h v d) (ht : ∀ o' r, letTemporaryGo o o' r = pure ()) :
    EV prog w A env X h (.Attribute o name pos) d := fun s E k => by
  rw [arm_eval_Attribute, hbase]
  refine wpAny_bind (ho.now k fun ov s₁ r₁ k₁ => ?_)
  cases r₁
  obtain ⟨ox, I⟩ := (hi.ext (k.ext.trans k₁.ext)).inst
  refine wpAny_bind (wpAny_standAt (wpAny_bind (wpAny_holding (get_value (hK.ext (k.ext.trans k₁.ext)).in I hga hf hh ?_))))
  rw [ht]
  exact wpAny_bind (wpAny_pure (wpAny_pure ⟨r.ext (k.ext.trans k₁.ext), k₁.trans (Kp.toks _ _)⟩))
theorem EV.imeth {o : Expr} {name : Str} {apos pos : Pos} {e : Expr} {es : List Expr} {od : Obj} {f : Addr} {fd : FuncData} {ds : List Dat} {d : Dat} (ho : EV prog w A env X h o (.val (.ref x))) (hK : KIn K h) (hi : Ins h x C od)
    (hbase : attributeBase o name env (eval o env) = eval o env) (hga : findIn K (.ref C) "__getattribute__" = some (some (.builtin "object.__getattribute__"))) (hgk : findIn K (.ref C) "__getattr__" = some Option.none)
    (hf : findIn K (.ref C) name = some (some (.ref f))) (ht : typeIn K (.ref f) = some (.type "function")) (hs : shadowIn (some od) name = some false) (hd : IsDef h f fd)
    (ha : EVs prog w A env X h (e :: es) ds) (hc : FnH prog w A X h (.ref f) (.val (.ref x) :: ds) d)
    (hfew : methodCallForm ((e :: es).length + ([] : List Keyword).length) (backTo pos (starEach (e :: es) env)) (backToKw pos (keywordEach [] env)) = true)
    (hline : (apos.endLine == pos.line) = true) (he : starEach (e :: es) env = (false, eval e env) :: starEach es env) (hp : ∀ pos, (backTo pos (starEach es env)).any (·.1) = false) :
    EV prog w A env X h (.Call (.Attribute o name apos) (e :: es) [] pos) d := fun s E k => by
  rw [arm_eval_Call, hbase]
  refine wpAny_bind (ho.now k fun ov s₁ r₁ k₁ => ?_)
  cases r₁
  have kx := k.ext.trans k₁.ext
  obtain ⟨ox, I⟩ := (hi.ext kx).inst
  refine wpAny_bind (wpAny_standAt ?_)
  have hpos : methodCallPos true o env apos pos = pure pos := by unfold methodCallPos; simp [hline]
  unfold methodCall
  rw [hfew]
  refine wpAny_bind (wpAny_holding (method_fn (hK.ext kx).in I hga hgk hf ht hs ?_))
  refine wpAny_bind (wpAny_of_eq hpos ?_)
  obtain ⟨ob, e1, e2⟩ := hd.ext kx
  show wpAny _ _ (callWith pos (.ref f) [.ref x] (backTo pos (starEach (e :: es) env)) []) _ _ _
  have hev := ha pos s₁ E (k.go k₁.ext)
  rw [he] at hev ⊢
  refine Calls.callWith_function (o := ob) (fd := fd) (Calls.evalArgs_plain (wpAny_mono hev (fun vs s₂ q => ?_) fun _ _ e => e))
  refine ⟨⟨q.2.ext.get e1 (solid_func e2), e2⟩, wpAny_mono (hc s₂ E (.ref x :: vs) ((k.go k₁.ext).go q.2.ext) (.cons (.val _) q.1)) (fun r s₃ z => ⟨z.1, (k₁.trans q.2).trans z.2⟩) fun _ _ e => e⟩
end
end Mine
end
section
open PySem PySem.W PyProof.Rows
set_option Elab.async false
set_option linter.unusedVariables false
namespace Mine
section
variable {prog : Program} {w : World} {A : Around} {env : Env} {X M X₀ : Addr → Prop} {h : Heap} {s s₀ : Shared} {E : Value → Shared → Prop} {K : Frag} {C x : Addr} {ρ : List (Str × Dat)}
theorem Fm.turnO {l : Addr} {o o' : Obj} (F : Fm env X M s₀ s ρ) (ho : s.heap.get? l = some o) (so : Solid l o) (nf : ∀ vs, o.data ≠ .fields vs) (hM : M l) (hXl : X l) {h' : Heap} {tk : Nat} (ho' : h'.get? l = some o') (so' : Solid l o') (hs : Heap.SameBut l s.heap h') :
    Fm env X M s₀ { s with heap := h', toks := tk } ρ ∧ Stp env M s { s with heap := h', toks := tk } := by
  have hlo : ¬ Own env l := F.own l hXl
  obtain ⟨μ, G, K⟩ := F.loc.st
  have tb : ∀ ps, TabAt s.heap ps → ∃ more, TabAt h' (ps ++ more) := Ext.tabBut ho so nf fun b o hb e => (hs.2 b hb).trans e
  have st : Stp env M s { s with heap := h', toks := tk } := ⟨fun b o nb e _ => (hs.2 b (fun q => nb (q ▸ hM))).trans e, fun b o nb nm e => ⟨(hs.2 b (fun q => nm (q ▸ hM))).trans e.1, e.2⟩, tb⟩
  obtain ⟨h₁, t₁, e₁, _⟩ := id F.same
  refine ⟨⟨⟨μ, ?_, K.mono fun b o nb e _ => (hs.2 b (fun q => nb (q ▸ hXl))).trans e⟩, ⟨h', tk, by rw [e₁], st.ext F.same.ext F.apart⟩, F.apart, ?_, F.own⟩, st⟩
  · refine G.sameBut hs (fun q => hlo (.inl q.symm)) fun x c _ hc q => hlo (.inr ⟨x, q ▸ hc⟩)
  · refine ⟨fun b z => ?_, let ⟨ps, t⟩ := F.live.tab; let ⟨m, t⟩ := tb ps t; ⟨_, t⟩⟩
    by_cases q : b = l
    · subst q; exact ⟨_, ho', so'⟩
    · obtain ⟨o, e⟩ := F.live.live b z
      exact ⟨o, (hs.2 b q).trans e.1, e.2⟩
noncomputable def insD (es : List DictEntry) (n : Nat) : Obj := { cls := .type "dict", data := .dict es.toArray n }
theorem ex_setAttr {y name : Str} {py ap pos : Pos} {e : Expr} {d : Dat} {dx : Addr} {es : List DictEntry} {n : Nat} {rest : List Stmt} {Q : Flow → Shared → Prop} (F : Fm env X M s₀ s ρ) (hM : M dx) (hXd : X dx) (hk : env.scope.kind = .function)
    (hv : ρ.lookup y = some (.val (.ref x))) (hry : Rea env y) (hd : (y == ("__debug__" : Str) || y == ("__classdict__" : Str)) = false) (hK : KIn K s.heap) (hx : Sg s.heap x (instObj C dx)) (hdx : s.heap.get? dx = some (insD es n)) (hKd : ∀ o, K.lookup dx ≠ some o) (hxd : x ≠ dx)
    (hs : findIn K (.ref C) "__setattr__" = some (some (.builtin "object.__setattr__"))) (hp : plainOver K C = true) (ht : takerIn K C name = some none) (hh : (clsIn K C).any (·.hasDict) = true)
    (hl : (lookIn name (insD es n)).isSome = true) (hz : es.length < 1000) (hput : ∀ v tk, Obj.putName name (PyData.keyHash w.params name) (.str name tk) v (insD es n) = insD (es ++ [⟨PyData.keyHash w.params name, .str name tk, v⟩]) (n + 1))
    (he : EV prog w A env X s.heap e d) (hsw : swapsWith e (some (.Attribute (.Name y py) name ap)) pos.line env = pure false)
    (k : ∀ s' v tk, Fm env X M s₀ s' ρ → Stp env M s s' → Rd X s'.heap v d → s'.heap.get? dx = some (insD (es ++ [⟨PyData.keyHash w.params name, .str name tk, v⟩]) (n + 1)) → KIn K s'.heap → Sg s'.heap x (instObj C dx) → wpAny (model prog w) A (execs rest env) Q E s') :
    wpAny (model prog w) A (execs (.Assign [.Attribute (.Name y py) name ap] e pos :: rest) env) Q E s := by
  refine wpAny_execs_cons ?_
  rw [plainObj_exec_Assign_Attribute _ _ _ _ _ hsw]
  refine wpAny_bind (wpAny_standAt (wpAny_bind (he.now F.at fun v s₁ r k₁ => ?_)))
  rw [arm_assign_Attribute]
  have F₁ := F.kp k₁
  refine wpAny_bind (wpAny_bind (wpAny_holding (Gv.now (EV.name F₁.loc hk hv hry hd) F₁.at fun ov s₂ r₂ k₂ => ?_)))
  cases r₂
  have F₂ := F₁.kp k₂
  have kk := k₁.trans k₂
  have K₂ := hK.ext kk.ext
  have x₂ := kk.ext.kept _ _ hx
  have d₂ : s₂.heap.get? dx = some (insD es n) := kk.ext.get hdx (solid_cls rfl)
  refine wpAny_bind (wpAny_standAt (wpAny_bind (wpAny_holding ?_)))
  refine inst_set K₂.in x₂.1 d₂ hs hp ht hh hl (hput v (s₂.toks + 1)) rfl (by simp; omega) fun h' h1 h2 => ?_
  obtain ⟨F₃, st⟩ := Fm.turnO (tk := s₂.toks + 1 + 1) F₂ d₂ (solid_cls rfl) (by nofun) hM hXd h1 (solid_cls rfl) h2
  refine wpAny_release (wpAny_pure ?_)
  refine k _ v (s₂.toks + 1) F₃ ((Stp.of kk).trans st) ((r.ext k₂.ext).mono fun b o nb e _ => (h2.2 b (fun q => nb (q ▸ hXd))).trans e) h1 (fun a o e => ?_) ?_
  · have e1 := K₂ a o e
    exact ⟨(h2.2 a (fun q => hKd o (q ▸ e))).trans e1.1, e1.2⟩
  · exact ⟨(h2.2 x hxd).trans x₂.1, x₂.2⟩
end
end Mine
end
section
open PySem PySem.W PyProof.Rows
set_option Elab.async false
set_option linter.unusedVariables false
namespace Mine
section
variable {prog : Program} {w : World} {A : Around} {env : Env} {X : Addr → Prop} {h : Heap}
noncomputable def FnA (prog : Program) (w : World) (A : Around) (X : Addr → Prop) (h : Heap) (f : Value) (ds : List Dat) (kn : List Str) (ks : List Dat) (d : Dat) : Prop :=
  ∀ (s : Shared) (E : Value → Shared → Prop) (vs us : List Value), At X h s.heap → RdL X s.heap vs ds → RdL X s.heap us ks → wpAny (model prog w) A (call f vs (kn.zip us)) (fun r s' => Rd X s'.heap r d ∧ Kp s s') E s
theorem FnA.mono {h' : Heap} {f : Value} {ds : List Dat} {kn : List Str} {ks : List Dat} {d : Dat} (x : FnA prog w A X h f ds kn ks d) (k : Ext h h') : FnA prog w A X h' f ds kn ks d := fun s E vs us k' r => x s E vs us (k'.sub k) r
theorem FnA.toH {f : Value} {ds : List Dat} {d : Dat} (x : FnA prog w A X h f ds [] [] d) : FnH prog w A X h f ds d := fun s E vs k r => x s E vs [] k r .nil
theorem EV.callK {x : Str} {px pos pk : Pos} {a : Addr} {fd : FuncData} {e e' : Expr} {es : List Expr} {kn : Str} {ds : List Dat} {dk d : Dat} (hf : EV prog w A env X h (.Name x px) (.val (.ref a))) (ha : EVs prog w A env X h (e :: es) ds)
    (hk : EV prog w A env X h e' dk) (hc : FnA prog w A X h (.ref a) ds [kn] [dk] d) (ho : IsDef h a fd) (he : starEach (e :: es) env = (false, eval e env) :: starEach es env) : EV prog w A env X h (.Call (.Name x px) (e :: es) [⟨some kn, e', pk⟩] pos) d := fun s E k =>
  wpAny_Call_Name_kw (hf.now k fun f s₁ r₁ k₁ => by
    cases r₁
    obtain ⟨o, ho, hd⟩ := ho
    refine PySem.callWith_function_kw (o := o) (fd := fd) (evalArgs_kw2 rfl (wpAny_mono (ha pos s₁ E (k.go k₁.ext)) (fun vs s₂ q => ?_) fun _ _ e => e) he)
    refine kwAll_cons (wpAny_mono (hk s₂ E ((k.go k₁.ext).go q.2.ext)) (fun u s₃ q₃ => kwAll_nil ?_) fun _ _ e => e)
    refine ⟨⟨(((k.go k₁.ext).go q.2.ext).go q₃.2.ext).ext.get ho (solid_func hd), hd⟩, ?_⟩
    exact wpAny_mono (hc s₃ E vs [u] (((k.go k₁.ext).go q.2.ext).go q₃.2.ext) (q.1.ext q₃.2.ext) (.cons q₃.1 .nil)) (fun r s₄ z => ⟨z.1, ((k₁.trans q.2).trans q₃.2).trans z.2⟩) fun _ _ e => e)
theorem codeAny_cellsA {s : Shared} {R : Result → Shared → Prop} {a : Addr} {o : Obj} {fd : FuncData} {body : List Stmt} {args : Args} {binds : List (Str × Value)}
    (hroom : A.depth < recursionLimit) (ho : s.heap.get? a = some o) (hdata : o.data = .func fd) (hlim : s.heap.NoLimit) (hcd : s.heap.CodeRec fd.code fd.qualname)
    (hbody : fd.body = .stmts body) (hbind : BindsTo s fd args binds) (hclo : fd.closure = [])
    (hkind : ∀ x ∈ binds, fd.scope.names.lookup x.1 = some .local ∨ (fd.scope.names.lookup x.1 = some .cell ∧ ((cellsFrom (s.heap.objs.size + 1) fd.scope.names []).lookup x.1).isSome = true))
    (h : ∀ s₁, InCallC s (callEnvC fd s.heap.objs.size a).locals (bindL (callEnvC fd s.heap.objs.size a).kindOf binds fun _ => none) (callEnvC fd s.heap.objs.size a).cells
        (bindC (callEnvC fd s.heap.objs.size a).kindOf binds fun _ => none) s₁ →
      wpAny (model prog w) (A.deeper (callEnvC fd s.heap.objs.size a)) (execs body (callEnvC fd s.heap.objs.size a)) (fun f s' => R (.ok (.ret (match f with | .ret v => v | _ => .none))) s')
        (fun e s' => wpAny (model prog w) (A.deeper (callEnvC fd s.heap.objs.size a)) (leaving (callEnvC fd s.heap.objs.size a) e) (fun _ s'' => R (.error e) s'') (fun e' s'' => R (.error e') s'') s') s₁)
    (hco : fd.scope.isCoroutine = false) (hgen : fd.scope.isGenerator = false) (hk : fd.scope.kind = .function) :
    codeAny (model prog w) A (.call (.ref a) args) R s := by
  refine codeAny_call_function hroom ho hdata hco hgen hbody hcd ?_
  rw [hclo]
  refine hbind _ _ _ _ (wpAny_newFunctionEnv_cells hk hkind fun env he s' x => ?_)
  subst he
  exact ⟨hlim.keeps x.toInCall.keep, codeAny_func (h s' x)⟩
theorem FnA.intro {a : Addr} {fd : FuncData} {body : List Stmt} {xs kn : List Str} {ds ks ds' : List Dat} {d : Dat} (ho : IsDef h a fd) (hroom : A.depth < recursionLimit) (hlim : h.NoLimit) (hcd : CodeS h fd.code fd.qualname)
    (hbody : fd.body = .stmts body) (hlen : xs.length = ds'.length) (hnd : xs.Nodup)
    (hbind : ∀ (s : Shared) (vs us : List Value), At X h s.heap → RdL X s.heap vs ds → RdL X s.heap us ks → ∃ zs, BindsTo s fd ⟨vs, kn.zip us⟩ (xs.zip zs) ∧ RdL X s.heap zs ds') (hclo : fd.closure = [])
    (hkind : ∀ x ∈ xs, ∀ n, fd.scope.names.lookup x = some .local ∨ (fd.scope.names.lookup x = some .cell ∧ ((cellsFrom (n + 1) fd.scope.names []).lookup x).isSome = true))
    (k : ∀ (s s₁ : Shared) (E : Value → Shared → Prop) (env : Env), env = callEnvC fd s.heap.objs.size a → At X h s.heap → EnvOk env → Fm env X Ø s s₁ (xs.zip ds') →
      wpAny (model prog w) (A.deeper env) (execs body env) (fun f s' => Rd X s'.heap (match f with | .ret v => v | _ => .none) d ∧ Kp s s') E s₁)
    (hheld : ∀ n x c, (cellsFrom n fd.scope.names []).lookup x = some c → fd.scope.names.lookup x = some .cell) (hco : fd.scope.isCoroutine = false) (hgen : fd.scope.isGenerator = false) (hk : fd.scope.kind = .function) : FnA prog w A X h (.ref a) ds kn ks d := by
  intro s E vs us kx r₀ ru
  obtain ⟨o, ho, hd⟩ := ho
  obtain ⟨zs, hb, r⟩ := hbind s vs us kx r₀ ru
  have hvl : zs.length = xs.length := r.1.trans hlen.symm
  have hz : (xs.zip zs).map (·.1) = xs := by rw [List.map_fst_zip (by omega)]
  refine wpAny_call (codeAny_cellsA (binds := xs.zip zs) hroom (kx.ext.get ho (solid_func hd)) hd (noLimitExt hlim kx.ext) (hcd.ext kx.ext).rec hbody hb hclo (fun x hx => hkind x.1 (by rw [← hz]; exact List.mem_map_of_mem hx) _) (fun s₁ I => ?_) hco hgen hk)
  · obtain ⟨h₁, t₁, e₁, k₁⟩ := I.done
    have ks : Kp s s₁ := ⟨h₁, t₁, e₁, .of k₁⟩
    have hown : ∀ b, Own (callEnvC fd s.heap.objs.size a) b → s.heap.get? b = none := fun b hb => by
      rcases hb with rfl | ⟨x, hx⟩
      · exact get_none_of_size (Nat.le_refl _)
      · exact get_none_of_size (Nat.le_of_lt (I.above x b (PySem.mem_of_lookup hx)))
    refine k s s₁ _ _ rfl kx ⟨hk, own_cells I.apart, fun x c hc => .inl (hheld _ x c hc)⟩ ⟨⟨⟨fun x => if (callEnvC fd s.heap.objs.size a).kindOf x = some .local then bindL (callEnvC fd s.heap.objs.size a).kindOf (xs.zip zs) (fun _ => none) x else bindC (callEnvC fd s.heap.objs.size a).kindOf (xs.zip zs) (fun _ => none) x, ⟨⟨_, I.toInCall.ns, fun x hx => by rw [if_pos hx]⟩, fun x c hx hc => ?_⟩, ?_⟩⟩, ks, fun b hb o e => (by have e1 := e.1; rw [hb.elim (hown b) (fun z => z.elim)] at e1; cases e1), kx.live.ext ks.ext, fun b hb hq => ?_⟩
    · have : (callEnvC fd s.heap.objs.size a).kindOf x ≠ some .local := by rcases hx with hx | hx <;> (rw [hx]; decide)
      rw [if_neg this]; exact I.cell x c hc
    · exact knows_zip (r.ext ks.ext) fun x v hx => bind_look _ _ _ x v (by rw [hz]; exact hnd) hx
    · obtain ⟨o, e, _⟩ := kx.live.live b hb
      rw [hown b hq] at e; cases e
end
end Mine
end
section
open PySem PySem.W PyProof.Rows
set_option Elab.async false
set_option linter.unusedVariables false
namespace Mine
section
variable {prog : Program} {w : World} {A : Around} {env : Env} {X : Addr → Prop} {h : Heap}
theorem isPart_value {v : Value} {p : Option Int} (x : IsPart v p) : ∃ q : Option (Int × Tok), v = partValue q ∧ q.map (·.1) = p := by
  cases x with
  | none => exact ⟨none, rfl, rfl⟩
  | int i t => exact ⟨some (i, t), rfl, rfl⟩
theorem slice_str {value : Expr} {lower upper : Option Expr} {p pos : Pos} {x : Str} {lo hi : Option Int} (hx : EV prog w A env X h value (.str x)) (a : PartV prog w A env X h lower lo)
    (b : PartV prog w A env X h upper hi) (hn : x.length ≤ sizeLine) : EV prog w A env X h (.Subscript value (.Slice lower upper none p) pos) (.str (Txt.slice x lo hi)) := fun s E k =>
  Subscript_ (hx.now k fun v s₁ r₁ k₁ => wpAny_Slice (wpAny_mono (a s₁ E (k.go k₁.ext)) (fun vl s₂ q₂ => wpAny_mono (b s₂ E ((k.go k₁.ext).go q₂.2.ext)) (fun vu s₃ q₃ =>
    wpAny_mono (PartV.none s₃ E (((k.go k₁.ext).go q₂.2.ext).go q₃.2.ext)) (fun vs s₄ q₄ => by
      cases r₁ with
      | str _ t =>
      have kk : Kp s₁ s₄ := (q₂.2.trans q₃.2).trans q₄.2
      obtain ⟨ql, rfl, el⟩ := isPart_value q₂.1
      obtain ⟨qu, rfl, eu⟩ := isPart_value q₃.1
      obtain ⟨q4, rfl, e4⟩ := isPart_value q₄.1
      have e4' : q4 = none := by cases q4 <;> simp_all
      subst e4'
      have k5 : Kp s₄ { s₄ with heap := s₄.heap.push { cls := .type "slice", data := .fields #[partValue ql, partValue qu, partValue none] } } := Kp.push _ _
      obtain ⟨ops, ho⟩ := subscripted_ops (.Slice lower upper none p) (.str x t) (.ref s₄.heap.objs.size)
      refine tail_any (typeIs_str _ _ _) PySem.F.slot_str_getitem.lookup (wpAny_getItem_str_slice (l := ql) (u := qu) (st := none) ⟨_, Heap.get?_push_size _ rfl, rfl, rfl⟩ rfl (post_val_or_str ⟨?_, fun t' k' => ⟨?_, ((k₁.trans kk).trans k5).trans (Kp.toks _ k')⟩⟩)) ho
      · exact Nat.le_trans (Txt.slice_le x _ _) hn
      · rw [← el, ← eu]; exact .str _ _) fun _ _ e => e) fun _ _ e => e) fun _ _ e => e))
end
end Mine
end
section
open PySem PySem.W PyProof.Rows
set_option Elab.async false
set_option linter.unusedVariables false
namespace Mine
section
variable {prog : Program} {w : World} {A : Around} {env : Env} {X : Addr → Prop} {h : Heap}
theorem Fn.divmod {a b : Int} (hb : b ≠ 0) (hp : Builtin.divisionGoesByPylong a b = false) : Fn prog w A X (.builtin "divmod") [.int a, .int b] (.tup [.int (a.fdiv b), .int (a.fmod b)]) := by
  intro s E vs hX q
  obtain ⟨v, u, rfl, r₁, r₂⟩ := q.two
  cases r₁; cases r₂
  refine divmod_int hb ?_ (.inl hp)
  refine ⟨newTup_Rd (s := { s with toks := s.toks + 1 + 1 }) (vs := [.int (a.fdiv b) s.toks, .int (a.fmod b) (s.toks + 1)]) hX (.cons (.int _ _) (.cons (.int _ _) .nil)), ?_⟩
  exact ⟨_, _, rfl, Ext.push _ _⟩
end
end Mine
end
section
open PySem PySem.W PyProof.Rows
set_option Elab.async false
set_option linter.unusedVariables false
namespace Mine
section
variable {prog : Program} {w : World} {A : Around} {env : Env} {X : Addr → Prop} {h : Heap}
theorem Fn.isBool {b : Bool} : Fn prog w A X (.builtin "isinstance") [.bool b, .val (.type "bool")] (.bool true) := by
  intro s E vs hX q
  obtain ⟨v, u, rfl, r₁, r₂⟩ := q.two
  cases r₁; cases r₂
  exact PySem.IsiPair.bool_bool ⟨.bool _, Kp.refl s⟩
theorem Fn.intBool {i : Int} : Fn prog w A X (.builtin "isinstance") [.int i, .val (.type "bool")] (.bool false) := by
  intro s E vs hX q
  obtain ⟨v, u, rfl, r₁, r₂⟩ := q.two
  cases r₁; cases r₂
  exact PySem.IsiPair.int_bool ⟨.bool _, Kp.toks s _⟩
end
end Mine
end
section
open PySem PySem.W PyProof.Rows
set_option Elab.async false
set_option linter.unusedVariables false
namespace Mine
section
variable {prog : Program} {w : World} {A : Around} {env : Env} {X : Addr → Prop} {h : Heap}
noncomputable def intOf : Expr → Option Int
  | .Constant (.int i) _ _ => some i
  | _ => none
noncomputable def strOf : Expr → Option Str
  | .Constant (.str i) _ _ => some i
  | _ => none
theorem EVs.ints : ∀ {es : List Expr} {is : List Int}, es.map intOf = is.map some → EVs prog w A env X h es (is.map .int)
  | [], [], _ => .nil
  | e :: es, i :: is, q => by
    simp only [List.map_cons, List.cons.injEq] at q
    obtain ⟨q1, q2⟩ := q
    unfold intOf at q1
    split at q1
    · cases q1; exact .cons EV.int (EVs.ints q2) rfl
    · cases q1
theorem EVs.strs : ∀ {es : List Expr} {is : List Str}, es.map strOf = is.map some → EVs prog w A env X h es (is.map .str)
  | [], [], _ => .nil
  | e :: es, i :: is, q => by
    simp only [List.map_cons, List.cons.injEq] at q
    obtain ⟨q1, q2⟩ := q
    unfold strOf at q1
    split at q1
    · cases q1; exact .cons EV.str (EVs.strs q2) rfl
    · cases q1
end
end Mine
end
section
open PySem PySem.W PyProof.Rows
set_option Elab.async false
set_option linter.unusedVariables false
namespace Mine
structure Run (prog : Program) (w : World) (A : Around) (env : Env) (B : List Stmt) (Q : Flow → Shared → Prop) (E : Value → Shared → Prop) (s : Shared) : Prop where
  out : wpAny (model prog w) A (execs B env) Q E s
noncomputable def Aft (prog : Program) (w : World) (A : Around) (env : Env) (rest : List Stmt) (Q : Flow → Shared → Prop) (E : Value → Shared → Prop) : Flow → Shared → Prop
  | .next, s => Run prog w A env rest Q E s
  | f, s => Q f s
section
variable {prog : Program} {w : World} {A : Around} {env : Env} {X M : Addr → Prop} {h : Heap} {s s₀ : Shared} {E : Value → Shared → Prop} {ρ : List (Str × Dat)} {Q : Flow → Shared → Prop}
theorem drop_at {α : Type} {B : List α} {i : Nat} {S : α} (h : B[i]? = some S) : B.drop i = S :: B.drop (i + 1) := by
  obtain ⟨hi, e⟩ := List.getElem?_eq_some_iff.mp h
  rw [List.drop_eq_getElem_cons hi, e]
theorem Run.at {B : List Stmt} (i : Nat) {S : Stmt} (h : B[i]? = some S) (k : Run prog w A env (S :: B.drop (i + 1)) Q E s) : Run prog w A env (B.drop i) Q E s := by
  rw [drop_at h]; exact k
theorem Run.from {B : List Stmt} (k : Run prog w A env (B.drop 0) Q E s) : Run prog w A env B Q E s := k
theorem Run.stop {B : List Stmt} {i : Nat} (h : B[i]? = none) (k : Q .next s) : Run prog w A env (B.drop i) Q E s := by
  rw [List.drop_eq_nil_of_le (List.getElem?_eq_none_iff.mp h)]
  exact ⟨wpAny_execs_nil k⟩
theorem Run.nil (k : Q .next s) : Run prog w A env [] Q E s := ⟨wpAny_execs_nil k⟩
theorem Run.aft {rest : List Stmt} (k : Run prog w A env rest Q E s) : Aft prog w A env rest Q E .next s := k
theorem Run.mono {B : List Stmt} {Q' : Flow → Shared → Prop} (k : Run prog w A env B Q E s) (q : ∀ f s, Q f s → Q' f s) : Run prog w A env B Q' E s := ⟨wpAny_mono k.out q fun _ _ e => e⟩
theorem Run.assign {x : Str} {px pos : Pos} {e : Expr} (d : Dat) {rest : List Stmt} (O : EnvOk env) (F : Fm env X M s₀ s ρ) (he : EV prog w A env X s.heap e d) (hx : Sto env x)
    (hs : swapsWith e (some (.Name x px)) pos.line env = pure false)
    (k : ∀ s', Fm env X M s₀ s' ((x, d) :: drop x ρ) → Stp env M s s' → Run prog w A env rest Q E s') : Run prog w A env (.Assign [.Name x px] e pos :: rest) Q E s :=
  ⟨ex_assign O F he hx hs fun s' F' st => (k s' F' st).out⟩
theorem drop_new {x : Str} (h : ρ.lookup x = none) : drop x ρ = ρ := by
  unfold drop
  refine List.filter_eq_self.mpr fun p hp => ?_
  rw [List.lookup_eq_none_iff] at h
  have := h p hp
  simp only [Bool.not_eq_true', beq_eq_false_iff_ne, ne_eq] at this ⊢
  exact fun e => by simp [e] at this
theorem Run.assignN {x : Str} {px pos : Pos} {e : Expr} (d : Dat) {rest : List Stmt} (O : EnvOk env) (F : Fm env X M s₀ s ρ) (he : EV prog w A env X s.heap e d) (hx : Sto env x)
    (hs : swapsWith e (some (.Name x px)) pos.line env = pure false) (hnew : ρ.lookup x = none)
    (k : ∀ s', Fm env X M s₀ s' ((x, d) :: ρ) → Stp env M s s' → Run prog w A env rest Q E s') : Run prog w A env (.Assign [.Name x px] e pos :: rest) Q E s :=
  ⟨ex_assign O F he hx hs fun s' F' st => (k s' (by rw [drop_new hnew] at F'; exact F') st).out⟩
theorem Run.ret {pos : Pos} {e : Expr} (d : Dat) {rest : List Stmt} (F : Fm env X M s₀ s ρ) (he : EV prog w A env X s.heap e d)
    (k : ∀ v s', Rd X s'.heap v d → Kp s₀ s' → Kp s s' → Q (.ret v) s') : Run prog w A env (.Return (some e) pos :: rest) Q E s := ⟨ex_return F he k⟩
theorem Run.if (F : Fm env X M s₀ s ρ) {test : Expr} {body orelse rest : List Stmt} {pos : Pos} (c : Bool) (ht : TV prog w A env X s.heap test c)
    (k : ∀ s', Kp s s' → Fm env X M s₀ s' ρ → Run prog w A env (if c = true then body else orelse) (Aft prog w A env rest Q E) E s') :
    Run prog w A env (.If test body orelse pos :: rest) Q E s :=
  ⟨ex_if F ht fun s' k' F' => wpAny_mono (k s' k' F').out (fun f s'' q => by cases f with | next => exact q.out | _ => exact q) fun _ _ e => e⟩
theorem Run.ifT (F : Fm env X M s₀ s ρ) {test : Expr} {body orelse rest : List Stmt} {pos : Pos} (ht : TV prog w A env X s.heap test true)
    (k : ∀ s', Kp s s' → Fm env X M s₀ s' ρ → Run prog w A env body (Aft prog w A env rest Q E) E s') : Run prog w A env (.If test body orelse pos :: rest) Q E s :=
  Run.if F true ht fun s' k' F' => by rw [if_pos rfl]; exact k s' k' F'
theorem Run.ifF (F : Fm env X M s₀ s ρ) {test : Expr} {body rest : List Stmt} {pos : Pos} (ht : TV prog w A env X s.heap test false)
    (k : ∀ s', Kp s s' → Fm env X M s₀ s' ρ → Run prog w A env rest Q E s') : Run prog w A env (.If test body [] pos :: rest) Q E s :=
  Run.if F false ht fun s' k' F' => by rw [if_neg Bool.false_ne_true]; exact .nil (k s' k' F')
theorem Run.unpack {es : List Expr} {ek : Nat} {ep pos : Pos} (xs : List Str) {e : Expr} (d : Dat) {row : List Dat} {rest : List Stmt} (O : EnvOk env) (F : Fm env X M s₀ s ρ) (he : EV prog w A env X s.heap e d) (ha : Asg prog w A (.Tuple es ek ep) xs X d row) (hn : xs.Nodup)
    (hx : ∀ x ∈ xs, Sto env x) (hsw : swapsWithSole [.Tuple es ek ep] e pos.line env = pure false) (hss : swappedStores [.Tuple es ek ep] e env = pure none)
    (k : ∀ s', Fm env X M s₀ s' (xs.zip row ++ drops xs ρ) → Stp env M s s' → Run prog w A env rest Q E s') : Run prog w A env (.Assign [.Tuple es ek ep] e pos :: rest) Q E s :=
  ⟨ex_unpack O F he ha hn hx hsw hss fun s' F' st => (k s' F' st).out⟩
theorem Run.swap {es : List Expr} {ek : Nat} {ep pos : Pos} (xs : List Str) {e : Expr} (row : List Dat) {rest : List Stmt} (hh : A.handled = none) (O : EnvOk env) (F : Fm env X M s₀ s ρ) (he : EV prog w A env X s.heap e (.tup row)) (hn : xs.Nodup) (hl : row.length = xs.length)
    (hx : ∀ x ∈ xs, Sto env x) (hsw : swapsWithSole [.Tuple es ek ep] e pos.line env = pure false) (hss : swappedStores [.Tuple es ek ep] e env = pure (some xs))
    (k : ∀ s', Fm env X M s₀ s' (xs.reverse.zip row.reverse ++ drops xs.reverse ρ) → Stp env M s s' → Run prog w A env rest Q E s') : Run prog w A env (.Assign [.Tuple es ek ep] e pos :: rest) Q E s :=
  ⟨ex_swap hh O F he hn hl hx hsw hss fun s' F' st => (k s' F' st).out⟩
theorem Run.multi3 {x y z : Str} {px py pz pos : Pos} {e : Expr} (d : Dat) {rest : List Stmt} (O : EnvOk env) (F : Fm env X M s₀ s ρ) (he : EV prog w A env X s.heap e d) (hf : d.flat) (hx : Sto env x) (hy : Sto env y) (hz : Sto env z)
    (k : ∀ s', Fm env X M s₀ s' ((z, d) :: drop z ((y, d) :: drop y ((x, d) :: drop x ρ))) → Stp env M s s' → Run prog w A env rest Q E s') :
    Run prog w A env (.Assign [.Name x px, .Name y py, .Name z pz] e pos :: rest) Q E s := ⟨ex_multi3 O F he hf hx hy hz fun s' F' st => (k s' F' st).out⟩
theorem Run.for {ds : List Dat} {iter : Expr} {x : Str} {px : Pos} {body rest : List Stmt} {pos : Pos} (ρI : Nat → List (Str × Dat)) (Ex : Nat → Shared → Prop) (hMX : ∀ b, M b → X b) (O : EnvOk env) (F : Fm env X M s₀ s (ρI 0)) (hx : Sto env x)
    (hsrc : SrcW prog w A env X s.heap iter ds) (hE : Ex 0 s) (hEx : ∀ i s s', Ex i s → (∀ b o, M b → Sg s.heap b o → Sg s'.heap b o) → SeqExt Ø s.heap s'.heap → Ex i s')
    (turn : ∀ i d s₁ E', ds[i]? = some d → Fm env X M s₀ s₁ ((x, d) :: drop x (ρI i)) → Ex i s₁ → Run prog w A env body (fun f s₂ => Stp env M s₁ s₂ ∧
      match f with
      | .next | .cont => Fm env X M s₀ s₂ (ρI (i + 1)) ∧ Ex (i + 1) s₂
      | .brk => Stp env M s s₂ → wpAny (model prog w) A (execs rest env) Q E s₂
      | .ret v => Q (.ret v) s₂) E' s₁)
    (done : ∀ s', Fm env X M s₀ s' (ρI ds.length) → Ex ds.length s' → Stp env M s s' → Run prog w A env rest Q E s')
    (hs : ∀ x, foldedSetIterable iter env x = pure x) :
    Run prog w A env (.For (.Name x px) iter body [] pos :: rest) Q E s :=
  ⟨ex_for ρI Ex hMX O F hx hsrc hE hEx (fun i d s₁ E' a b c => (turn i d s₁ E' a b c).out) (fun s' a b c => (done s' a b c).out) hs⟩
theorem Run.assign_comp {α : Type} {elt target iter : Expr} {ifs : List Expr} {scope : Scope} {pos spos : Pos} {cl : List (Str × Addr)} {xs : List Str} {ρ' : List (Str × Dat)} {x : Str} {px : Pos} {rest : List Stmt}
    (items : List α) (row : α → List Dat) (p : α → Bool) (F : α → Dat) (O : EnvOk env) (Fr : Fm env X M s₀ s ρ) (hsrc : Src prog w A env X s.heap iter target xs (items.map row)) (L : Loc env X s.heap ρ') (C : CompOk env iter scope xs cl)
    (hlen : ∀ a ∈ items, (row a).length = xs.length) (hsz : items.length ≤ sizeLine)
    (hbody : ∀ a ∈ items, ∀ (C : Addr) (Y : Addr → Prop) (h' : Heap), (∀ b, X b → Y b) → Ext s.heap h' → Live Y h' → Loc (compEnvC scope cl C env) Y h' (xs.zip (row a) ++ caps cl ρ') →
      Ifs prog w A (compEnvC scope cl C env) Y h' ifs (p a) ∧ (p a = true → EV prog w A (compEnvC scope cl C env) Y h' elt (F a)))
    (hsw : swapsWith (.ListComp elt [⟨target, iter, ifs, 0⟩] scope pos) (some (.Name x px)) spos.line env = pure true) (hx : Sto env x)
    (k : ∀ s', Fm env X M s₀ s' ((x, .list ((items.filter p).map F)) :: drop x ρ) → Stp env M s s' → Run prog w A env rest Q E s') :
    Run prog w A env (.Assign [.Name x px] (.ListComp elt [⟨target, iter, ifs, 0⟩] scope pos) spos :: rest) Q E s :=
  ⟨ex_assign_comp items row p F O Fr hsrc L C hlen hsz hbody hsw hx fun s' F' st => (k s' F' st).out⟩
theorem EV.nameM {x : Str} {pos : Pos} {d : Dat} (L : Loc env X h ρ) (hk : env.scope.kind = .function) (q : (x, d) ∈ ρ) (hx : Rea env x) (hd : (x == ("__debug__" : Str) || x == ("__classdict__" : Str)) = false) :
    EV prog w A env X h (.Name x pos) d := by
  obtain ⟨v, a, b⟩ := L.var q hx
  exact EV.var hk a b hd
theorem EV.iteD {t b o : Expr} {pos : Pos} {c : Bool} {d e : Dat} (x : TV prog w A env X h t c) (y : c = true → EV prog w A env X h b d) (z : c = false → EV prog w A env X h o e) : EV prog w A env X h (.IfExp t b o pos) (if c = true then d else e) :=
  EV.ite x (fun q => by rw [if_pos q]; exact y q) (fun q => by rw [q, if_neg Bool.false_ne_true]; exact z q)
theorem EV.iteI {t b o : Expr} {pos : Pos} {c : Bool} {d e : Int} (x : TV prog w A env X h t c) (y : c = true → EV prog w A env X h b (.int d)) (z : c = false → EV prog w A env X h o (.int e)) : EV prog w A env X h (.IfExp t b o pos) (.int (if c = true then d else e)) :=
  EV.ite x (fun q => by rw [if_pos q]; exact y q) (fun q => by rw [q, if_neg Bool.false_ne_true]; exact z q)
theorem EV.iteS {t b o : Expr} {pos : Pos} {c : Bool} {d e : Str} (x : TV prog w A env X h t c) (y : c = true → EV prog w A env X h b (.str d)) (z : c = false → EV prog w A env X h o (.str e)) : EV prog w A env X h (.IfExp t b o pos) (.str (if c = true then d else e)) :=
  EV.ite x (fun q => by rw [if_pos q]; exact y q) (fun q => by rw [q, if_neg Bool.false_ne_true]; exact z q)
theorem sto {env : Env} {xs : List Str} (h : ∀ x ∈ xs, env.kindOf x = some .local) : ∀ x ∈ xs, Sto env x := fun x hx => .inl (h x hx)
theorem get_int {xs : List Int} {i : Int} (h0 : 0 ≤ i) (h1 : i < xs.length) : (xs.map Dat.int)[i.toNat]? = some (.int (xs.getD i.toNat 0)) := by
  have : i.toNat < xs.length := by omega
  simp [List.getD, this]
theorem get_str {xs : List Str} {i : Int} (h0 : 0 ≤ i) (h1 : i < xs.length) : (xs.map Dat.str)[i.toNat]? = some (.str (xs.getD i.toNat "")) := by
  have : i.toNat < xs.length := by omega
  simp [List.getD, this]
theorem get_cp {x : Str} {i : Int} (h0 : 0 ≤ i) (h1 : i < x.cps.toList.length) : x.cps.toList[i.toNat]? = some (x.cps.toList.getD i.toNat 0) := by
  have : i.toNat < x.cps.toList.length := by omega
  simp only [List.getD, List.getElem?_eq_getElem this, Option.getD_some]
theorem len1 (c : Nat) : (Str.mk #[c]).length = 1 := rfl
theorem Fm.re {ρ' : List (Str × Dat)} (F : Fm env X M s₀ s ρ) (e : ρ = ρ') : Fm env X M s₀ s ρ' := e ▸ F
theorem FnH.introR {a : Addr} {fd : FuncData} {body : List Stmt} {xs : List Str} {ds : List Dat} {d : Dat} (ho : IsDef h a fd) (hroom : A.depth < recursionLimit) (hlim : h.NoLimit) (hcd : CodeS h fd.code fd.qualname)
    (hbody : fd.body = .stmts body) (hlen : xs.length = ds.length) (hnd : xs.Nodup)
    (hbind : ∀ (s : Shared) (vs : List Value), At X h s.heap → vs.length = xs.length → bindArgs fd ⟨vs, []⟩ = pure (xs.zip vs)) (hclo : fd.closure = [])
    (hkind : ∀ x ∈ xs, ∀ n, fd.scope.names.lookup x = some .local ∨ (fd.scope.names.lookup x = some .cell ∧ ((cellsFrom (n + 1) fd.scope.names []).lookup x).isSome = true))
    (k : ∀ (s s₁ : Shared) (E : Value → Shared → Prop) (env : Env), env = callEnvC fd s.heap.objs.size a → At X h s.heap → EnvOk env → Fm env X Ø s s₁ (xs.zip ds) →
      Run prog w (A.deeper env) env body (fun f s' => Rd X s'.heap (match f with | .ret v => v | _ => .none) d ∧ Kp s s') E s₁)
    (hheld : ∀ n x c, (cellsFrom n fd.scope.names []).lookup x = some c → fd.scope.names.lookup x = some .cell) (hco : fd.scope.isCoroutine = false) (hgen : fd.scope.isGenerator = false) (hk : fd.scope.kind = .function) : FnH prog w A X h (.ref a) ds d :=
  FnH.intro ho hroom hlim hcd hbody hlen hnd hbind hclo hkind (fun s s₁ E env a b c d => (k s s₁ E env a b c d).out) hheld hco hgen hk
theorem FnA.introR {a : Addr} {fd : FuncData} {body : List Stmt} {xs kn : List Str} {ds ks ds' : List Dat} {d : Dat} (ho : IsDef h a fd) (hroom : A.depth < recursionLimit) (hlim : h.NoLimit) (hcd : CodeS h fd.code fd.qualname)
    (hbody : fd.body = .stmts body) (hlen : xs.length = ds'.length) (hnd : xs.Nodup)
    (hbind : ∀ (s : Shared) (vs us : List Value), At X h s.heap → RdL X s.heap vs ds → RdL X s.heap us ks → ∃ zs, BindsTo s fd ⟨vs, kn.zip us⟩ (xs.zip zs) ∧ RdL X s.heap zs ds') (hclo : fd.closure = [])
    (hkind : ∀ x ∈ xs, ∀ n, fd.scope.names.lookup x = some .local ∨ (fd.scope.names.lookup x = some .cell ∧ ((cellsFrom (n + 1) fd.scope.names []).lookup x).isSome = true))
    (k : ∀ (s s₁ : Shared) (E : Value → Shared → Prop) (env : Env), env = callEnvC fd s.heap.objs.size a → At X h s.heap → EnvOk env → Fm env X Ø s s₁ (xs.zip ds') →
      Run prog w (A.deeper env) env body (fun f s' => Rd X s'.heap (match f with | .ret v => v | _ => .none) d ∧ Kp s s') E s₁)
    (hheld : ∀ n x c, (cellsFrom n fd.scope.names []).lookup x = some c → fd.scope.names.lookup x = some .cell) (hco : fd.scope.isCoroutine = false) (hgen : fd.scope.isGenerator = false) (hk : fd.scope.kind = .function) : FnA prog w A X h (.ref a) ds kn ks d :=
  FnA.intro ho hroom hlim hcd hbody hlen hnd hbind hclo hkind (fun s s₁ E env a b c d => (k s s₁ E env a b c d).out) hheld hco hgen hk
end
end Mine
end
section
open PySem PySem.W PyProof.Rows
set_option Elab.async false
set_option linter.unusedVariables false
set_option maxRecDepth 100000
noncomputable section
namespace Mine
noncomputable def mgT (P : Params) : Str → Option Value := fun x => nsFind (match (o_16_3 P).data with | .dict es _ => es | _ => #[]) x
structure TF (w : World) (h : Heap) : Prop where
  obj : ∀ a o, (T_f w.params).get a = some o → a ∈ addrsT → Solid a o → Sg h a o
  blt : ∃ mb, h.Ns builtinsNs mb ∧ ∀ x : Str, x ≠ "__name__" → mb x = bootBuiltins x
  lim : h.NoLimit
theorem TF.ext {w : World} {h h' : Heap} (t : TF w h) (k : Ext h h') : TF w h' := ⟨fun a o e m s => k.kept _ _ (t.obj a o e m s), let ⟨mb, n, e⟩ := t.blt; ⟨mb, nsExt n k, e⟩, noLimitExt t.lim k⟩
theorem keys3 (P : Params) : (match (o_16_3 P).data with | .dict es _ => es | _ => #[]).all (fun e => match e.key with | .str _ _ => true | _ => false) = true := by kernel_rfl
theorem TF.glob {w : World} {h : Heap} (t : TF w h) : h.Ns 3 (mgT w.params) := by
  have e := t.obj 3 (o_16_3 w.params) (by kernel_rfl) (by decide +kernel) (solid_cls (T := "dict") rfl)
  refine ⟨_, _, _, e.1, rfl, fun en hen => ?_, fun x => rfl⟩
  have := Array.all_eq_true_iff_forall_mem.mp (keys3 w.params) en hen
  revert this
  cases en.key <;> simp
theorem TF.fn {w : World} {h : Heap} (t : TF w h) {a : Addr} {o : Obj} {fd : FuncData} (e : (T_f w.params).get a = some o) (ha : a ∈ addrsT) (hd : o.data = .func fd) : IsDef h a fd := ⟨o, (t.obj a o e ha (solid_func hd)).1, hd⟩
section
variable {w : World} {A : Around} {X : Addr → Prop} {h : Heap}
theorem Rm.room {n : Nat} (r : Rm A n) : A.depth < recursionLimit := by have := r.depth; omega
theorem TF.code {h : Heap} (t : TF w h) {a : Addr} {o : Obj} {q : Str} (e : (T_f w.params).get a = some o) (ha : a ∈ addrsT) (hc : o.cls = .type "code") (hq : ∃ vs t, o.data = .fields vs ∧ vs[1]? = some (.str q t)) : CodeS h (.ref a) q :=
  let ⟨vs, u, d, e1⟩ := hq; ⟨a, o, vs, u, rfl, t.obj a o e ha (solid_cls hc), d, e1⟩
noncomputable def b1Es (P : Params) : Array (Int × Value) := match (o_2_29 P).data with | .set es _ _ => es | _ => #[]
noncomputable def strangeL : List Int := [173, 847, 6150, 6155, 6156, 6157, 8203, 8204, 8205, 8288, 65279, 65024, 65025, 65026, 65027, 65028, 65029, 65030, 65031, 65032, 65033, 65034, 65035, 65036, 65037, 65038, 65039]
noncomputable def strange (i : Int) : Bool := strangeL.contains i
noncomputable def elemOk : Int × Value → Bool
  | (k, .int i _) => k == hashInt i && strange i
  | _ => false
theorem b1_elems (P : Params) : (b1Es P).toList.all elemOk = true := by kernel_rfl
theorem b1_has (P : Params) : strangeL.all (fun i => (b1Es P).toList.any fun e => Value.isInt i e.2) = true := by kernel_rfl
theorem elem_of {e : Int × Value} (h : elemOk e = true) : ∃ i t, e.2 = .int i t ∧ e.1 = hashInt i ∧ strange i = true := by
  obtain ⟨k, v⟩ := e
  cases v <;> simp only [elemOk, Bool.false_eq_true] at h
  rename_i i t
  simp only [Bool.and_eq_true, beq_iff_eq] at h
  exact ⟨i, t, rfl, h.1, h.2⟩
theorem b1_size (P : Params) : (b1Es P).size < scanBound := by
  have e : (b1Es P).size = 27 := by kernel_rfl
  rw [e]; decide
theorem TF.b1 (t : TF w h) : IntSet pwT w h 29 strange := by
  refine ⟨o_2_29 w.params, (b1Es w.params).size, t.obj 29 _ (by kernel_rfl) (by decide +kernel) (solid_cls (T := "set") rfl), fun h' e => ⟨_, b1Es w.params, _, _, e, ⟨rfl, rfl, rfl⟩, rfl, fun el hel => ?_, fun k => ⟨fun hk => ?_, fun ⟨el, hel, hk⟩ => ?_⟩, (b1_size w.params), by kernel_rfl, rfl⟩⟩
  · obtain ⟨i, u, e1, e2, _⟩ := elem_of (List.all_eq_true.mp (b1_elems w.params) el hel)
    exact ⟨⟨i, by rw [e1]; simp [intKind, Value.isInt], e2⟩, by rw [e1]; rfl⟩
  · obtain ⟨el, h1, h2⟩ := List.any_eq_true.mp (List.all_eq_true.mp (b1_has w.params) k (by simpa [strange] using hk))
    exact ⟨el, h1, h2⟩
  · obtain ⟨i, u, e1, e2, e3⟩ := elem_of (List.all_eq_true.mp (b1_elems w.params) el hel)
    have : Value.isInt k el.2 = true := hk
    rw [e1] at this
    have : i = k := by simpa [Value.isInt] using this
    rw [← this]; exact e3
theorem ev_blt {env : Env} {x : Str} {pos : Pos} {v : Value} (t : TF w h) (hk : env.scope.kind = .function) (hg : env.globals = 3) (hb : env.builtins = builtinsNs) (hx : env.kindOf x = some .globalImplicit) (h1 : mgT w.params x = Option.none) (h2 : bootBuiltins x = some v)
    (h3 : (x == ("__name__" : Str)) = false) (hd : (x == ("__debug__" : Str)) = false) : EV pwT w A env X h (.Name x pos) (.val v) := by
  obtain ⟨mb, n, e⟩ := t.blt
  exact EV.blt hk hx (by rw [hg]; exact t.glob) h1 (by rw [hb]; exact n) (by rw [e x (by simpa using h3)]; exact h2) hd
theorem ev_glob {env : Env} {x : Str} {pos : Pos} {v : Value} (t : TF w h) (hk : env.scope.kind = .function) (hg : env.globals = 3) (hx : env.kindOf x = some .globalImplicit) (h1 : mgT w.params x = some v) (hd : (x == ("__debug__" : Str)) = false) : EV pwT w A env X h (.Name x pos) (.val v) :=
  EV.glob hk hx (by rw [hg]; exact t.glob) h1 hd
theorem IntSet.ext {h h' : Heap} {a : Addr} {S : Int → Bool} (x : IntSet pwT w h a S) (k : Ext h h') : IntSet pwT w h' a S := let ⟨o, n, e, r⟩ := x; ⟨o, n, k.kept _ _ e, r⟩
theorem in_table_ok (t : TF w h) (hr : Rm A 4) {c : Nat} : FnH pwT w A X h (.ref 39) [.str ⟨#[c]⟩] (.bool (strange c)) := by
  have hd : IsDef h 39 _ := t.fn (o := o_3_39 w.params) (by kernel_rfl) (by decide +kernel) rfl
  have hc : CodeS h (.ref 38) (Str.ofString "in_table_b1") := t.code (o := o_3_38 w.params) (by kernel_rfl) (by decide +kernel) rfl ⟨_, _, rfl, rfl⟩
  refine FnH.intro (xs := ["code"]) hd hr.room t.lim hc rfl rfl (by decide) ?_ rfl ?_ ?_ ?_ rfl rfl rfl
  · intro s vs _ hl
    match vs, hl with
    | [v], _ => kernel_rfl
  · intro x hx n
    rw [List.mem_singleton.mp hx]
    exact .inl (by kernel_rfl)
  · intro s s₁ E env henv k O F
    refine ex_return (d := .bool (strange c)) F ?_ ?_
    · subst henv
      have t₁ := t.ext (k.ext.trans F.same.ext)
      refine EV.cmpH (a := .int c) (b := .val (.ref 29)) ?_ ?_ (CmpH.inSet (t.b1.ext (k.ext.trans F.same.ext))) rfl
      · refine EV.callB (ds := [.str ⟨#[c]⟩]) (ev_blt t₁ rfl rfl rfl (by kernel_rfl) (by kernel_rfl) (by kernel_rfl) (by kernel_rfl) (by kernel_rfl)) (.cons (EV.name F.loc rfl (by kernel_rfl) (.inl (by kernel_rfl)) (by kernel_rfl)) .nil rfl) Fn.ord rfl fun _ => rfl
      · exact ev_glob t₁ rfl rfl (by kernel_rfl) (by kernel_rfl) (by kernel_rfl)
    · exact fun v s' r k₁ _ => ⟨r, k₁⟩
  · intro n x c hc
    exact absurd hc (by
      have : cellsFrom n (stS (stN 3)).names [] = [] := by kernel_rfl
      show ¬ (cellsFrom n (stS (stN 3)).names []).lookup x = some c
      rw [this]; simp)
end
end Mine
end
end
section
open PySem PySem.W PyProof.Rows
set_option Elab.async false
set_option linter.unusedVariables false
set_option maxRecDepth 100000
noncomputable section
namespace Mine
inductive IsEnts : List DictEntry → List (Int × Str) → Prop
  | nil : IsEnts [] []
  | cons {k : Int} {v : Str} {t u : Tok} {es : List DictEntry} {kv : List (Int × Str)} : IsEnts es kv → IsEnts (⟨hashInt k, .int k t, .str v u⟩ :: es) ((k, v) :: kv)
theorem isEnts_ents : ∀ (T : Nat) (kv : List (Int × Str)), IsEnts (ents T kv) kv
  | _, [] => .nil
  | T, (k, v) :: r => .cons (isEnts_ents (T + 3) r)
theorem isEnts_entsS : ∀ (T : Nat) (kv : List (Int × Str)), IsEnts (entsS T kv) kv
  | _, [] => .nil
  | T, (k, v) :: r => .cons (isEnts_entsS (T + 2) r)
theorem IsEnts.app {es es' : List DictEntry} {kv kv' : List (Int × Str)} (x : IsEnts es kv) (y : IsEnts es' kv') : IsEnts (es ++ es') (kv ++ kv') := by
  induction x with
  | nil => exact y
  | cons _ ih => exact .cons ih
noncomputable def kvV : List DictEntry → List (Int × Str) → List (Int × Value)
  | e :: es, p :: kv => (p.1, e.val) :: kvV es kv
  | _, _ => []
theorem IsEnts.pairs {w : World} {es : List DictEntry} {kv : List (Int × Str)} (x : IsEnts es kv) : Pairs (intKind pwT w) es (kvV es kv) := by
  induction x with
  | nil => exact .nil
  | cons _ ih => exact .cons (intKind_is _ _ _ _) rfl ih
theorem IsEnts.keys {es : List DictEntry} {kv : List (Int × Str)} (x : IsEnts es kv) : (kvV es kv).map (·.1) = kv.map (·.1) := by
  induction x with
  | nil => rfl
  | cons _ ih => simp [kvV, ih]
theorem IsEnts.keysOf {w : World} {es : List DictEntry} {kv : List (Int × Str)} (x : IsEnts es kv) : ∀ e ∈ es, ∃ k, (intKind pwT w).is k e.key = true ∧ e.hash = (intKind pwT w).hash k := by
  induction x with
  | nil => intro e he; cases he
  | cons _ ih =>
    intro e he
    rcases List.mem_cons.mp he with rfl | he
    · exact ⟨_, intKind_is _ _ _ _, rfl⟩
    · exact ih e he
noncomputable def look (kv : List (Int × Str)) (i : Int) : Dat := match kv.find? fun p => p.1 = i with
  | some p => .str p.2
  | Option.none => .none
theorem IsEnts.at {X : Addr → Prop} {h : Heap} {es : List DictEntry} {kv : List (Int × Str)} (x : IsEnts es kv) (i : Int) : Rd X h ((valueAt (kvV es kv) i).getD .none) (look kv i) := by
  induction x with
  | nil => exact .none
  | @cons k v t u es kv _ ih =>
    unfold valueAt look at ih ⊢
    by_cases hk : k = i
    · simp only [kvV, List.find?_cons, hk, decide_true]
      exact .str _ _
    · simp only [kvV, List.find?_cons, hk, decide_false]
      exact ih
noncomputable def sortedB : List Int → Bool
  | a :: b :: r => decide (a < b) && sortedB (b :: r)
  | _ => true
theorem sorted_lt : ∀ (l : List Int) (a : Int), sortedB (a :: l) = true → ∀ b ∈ l, a < b
  | [], _, _, b, hb => by cases hb
  | c :: l, a, h, b, hb => by
    simp only [sortedB, Bool.and_eq_true, decide_eq_true_eq] at h
    rcases List.mem_cons.mp hb with rfl | hb
    · exact h.1
    · exact Int.lt_trans h.1 (sorted_lt l c h.2 b hb)
theorem sorted_nodup : ∀ l : List Int, sortedB l = true → l.Nodup
  | [], _ => .nil
  | a :: l, h => by
    refine List.nodup_cons.mpr ⟨fun m => Int.lt_irrefl a (sorted_lt l a h a m), sorted_nodup l ?_⟩
    cases l with
    | nil => rfl
    | cons b r => simp only [sortedB, Bool.and_eq_true] at h; exact h.2
noncomputable def kvM : List (Int × Str) := (chT 0 ++ csT.flatten) ++ rT
theorem kvM_eq : kvM = kvsT := by kernel_rfl
theorem kvM_sorted : sortedB (kvsT.map (·.1)) = true := by kernel_rfl
noncomputable def esM : List DictEntry := (ents 263 (chT 0) ++ ents 314 csT.flatten) ++ entsS 2201 rT
theorem esM_is : IsEnts esM kvsT := by
  rw [← kvM_eq]
  exact ((isEnts_ents _ _).app (isEnts_ents _ _)).app (isEnts_entsS _ _)
variable {w : World} {A : Around} {X : Addr → Prop} {h : Heap}
theorem TF.b3 (t : TF w h) : IntDict pwT w h 40 (kvV esM kvsT) :=
  ⟨dMain, t.obj 40 _ (by kernel_rfl) (by decide +kernel) (solid_cls (T := "dict") rfl), rfl, rfl, fun h' e => ⟨dMain, esM.toArray, esM.length, e, ⟨rfl, rfl, rfl⟩, rfl, fun en hen => esM_is.keysOf en (by simpa using hen), esM_is.pairs, by
    rw [esM_is.keys]; exact sorted_nodup _ kvM_sorted⟩⟩
end Mine
end
end
section
open PySem PySem.W PyProof.Rows
set_option Elab.async false
set_option linter.unusedVariables false
set_option maxRecDepth 100000
noncomputable section
namespace Mine
variable {w : World} {A : Around} {X : Addr → Prop} {h : Heap} {env : Env}
noncomputable def Dat.isNone : Dat → Bool
  | .none => true
  | _ => false
theorem Cmp.isNot {prog : Program} {d : Dat} (hd : ∀ v, d ≠ .val v) : Cmp prog w A X .IsNot d .none (!d.isNone) := by
  intro s E v u hX r₁ r₂
  cases r₂
  cases r₁ with
  | val v => exact absurd rfl (hd v)
  | none => exact wpAny_pure ⟨rfl, Kp.refl s⟩
  | _ => exact wpAny_pure ⟨rfl, Kp.refl s⟩
theorem Cmp.isN {prog : Program} {d : Dat} (hd : ∀ v, d ≠ .val v) : Cmp prog w A X .Is d .none d.isNone := by
  intro s E v u hX r₁ r₂
  cases r₂
  cases r₁ with
  | val v => exact absurd rfl (hd v)
  | none => exact is_none ⟨rfl, Kp.refl s⟩
  | _ => exact is_none ⟨rfl, Kp.refl s⟩
noncomputable def mapB3 (c : Nat) : Str := match kvsT.find? fun p => p.1 = (c : Int) with
  | some p => p.2
  | Option.none => Txt.lower ⟨#[c]⟩
theorem look_cases (c : Nat) : (look kvsT c = .str (mapB3 c) ∨ (look kvsT c = .none ∧ mapB3 c = Txt.lower ⟨#[c]⟩)) := by
  unfold look mapB3
  cases kvsT.find? fun p => p.1 = (c : Int) with
  | some p => exact .inl rfl
  | none => exact .inr ⟨rfl, rfl⟩
theorem lower1 (c : Nat) : PySem.Builtin.Str.tooLong (Txt.lower ⟨#[c]⟩).length = false := fit_lower (by show 1 ≤ _; omega)
theorem map_table_ok (t : TF w h) (hr : Rm A 4) {c : Nat} : FnH pwT w A X h (.ref 85) [.str ⟨#[c]⟩] (.str (mapB3 c)) := by
  have hd : IsDef h 85 _ := t.fn (o := o_5_85 w.params) (by kernel_rfl) (by decide +kernel) rfl
  have hc : CodeS h (.ref 84) (Str.ofString "map_table_b3") := t.code (o := o_5_84 w.params) (by kernel_rfl) (by decide +kernel) rfl ⟨_, _, rfl, rfl⟩
  refine FnH.intro (xs := ["code"]) hd hr.room t.lim hc rfl rfl (by decide) ?_ rfl ?_ ?_ ?_ rfl rfl rfl
  · intro s vs _ hl
    match vs, hl with
    | [v], _ => kernel_rfl
  · intro x hx n
    rw [List.mem_singleton.mp hx]
    exact .inl (by kernel_rfl)
  · intro s s₁ E env henv k O F
    refine ex_assign (d := look kvsT c) O F ?_ (.inl (by subst henv; kernel_rfl)) (by subst henv; kernel_rfl) ?_
    · subst henv
      have t₁ := t.ext (k.ext.trans F.same.ext)
      refine EV.meth (d₀ := .val (.ref 40)) (ds := [.int c]) PySem.F.plainAttrs_dict PySem.F.slot_dict_get PySem.F.type_dict_get (ev_glob t₁ rfl rfl (by kernel_rfl) (by kernel_rfl) (by kernel_rfl)) (IntDict.has t₁.b3) (.cons ?_ .nil rfl)
        (FnH.dictGet t₁.b3 (by decide +kernel) fun h' => esM_is.at _) (by kernel_rfl) (by kernel_rfl) rfl rfl (fun _ => rfl)
      exact EV.callB (ds := [.str ⟨#[c]⟩]) (ev_blt t₁ rfl rfl rfl (by kernel_rfl) (by kernel_rfl) (by kernel_rfl) (by kernel_rfl) (by kernel_rfl)) (.cons (EV.name F.loc rfl (by kernel_rfl) (.inl (by kernel_rfl)) (by kernel_rfl)) .nil rfl) Fn.ord rfl fun _ => rfl
    · intro s₂ F₂ st₂
      have hl : ∀ v, look kvsT c ≠ .val v := by
        intro v q; rcases look_cases c with e | ⟨e, _⟩ <;> (rw [e] at q; cases q)
      refine ex_if (c := !(look kvsT c).isNone) F₂ ?_ ?_
      · subst henv
        exact TV.cmp (a := look kvsT c) (b := .none) (EV.name F₂.loc rfl (by kernel_rfl) (.inl (by kernel_rfl)) (by kernel_rfl)) EV.none (Cmp.isNot hl) rfl
      · intro s₃ k₃ F₃
        rcases look_cases c with e | ⟨e, e'⟩
        · rw [e]
          refine ex_return (d := .str (mapB3 c)) F₃ ?_ fun v s' r k₁ _ => ⟨r, k₁⟩
          subst henv
          rw [← e]
          exact EV.name F₃.loc rfl (by kernel_rfl) (.inl (by kernel_rfl)) (by kernel_rfl)
        · rw [e]
          refine wpAny_pure ?_
          refine ex_return (d := .str (mapB3 c)) F₃ ?_ fun v s' r k₁ _ => ⟨r, k₁⟩
          subst henv
          refine EV.meth0 (d₀ := .str ⟨#[c]⟩) PySem.F.plainAttrs_str PySem.F.slot_str_lower PySem.F.type_str_lower (EV.name F₃.loc rfl (by kernel_rfl) (.inl (by kernel_rfl)) (by kernel_rfl)) Has.str (FnH.lower e'.symm (lower1 c)) (by kernel_rfl) rfl
  · intro n x c hc
    exact absurd hc (by
      have : cellsFrom n (stS (stN 5)).names [] = [] := by kernel_rfl
      show ¬ (cellsFrom n (stS (stN 5)).names []).lookup x = some c
      rw [this]; simp)
end Mine
end
end
section
open PySem PySem.W PyProof.Rows
set_option Elab.async false
set_option linter.unusedVariables false
set_option maxRecDepth 100000
noncomputable section
namespace Mine
structure Bse (env : Env) : Prop where
  kind : env.scope.kind = .function
  glob : env.globals = 3
  blt : env.builtins = builtinsNs
theorem Bse.call {fd : FuncData} {n : Nat} {a : Addr} (h1 : fd.scope.kind = .function) (h2 : fd.globals = 3) (h3 : fd.builtins = builtinsNs) : Bse (callEnvC fd n a) := ⟨h1, h2, h3⟩
theorem Bse.comp {env : Env} {scope : Scope} {cl : List (Str × Addr)} {C : Addr} (b : Bse env) (hk : scope.kind = .function) : Bse (compEnvC scope cl C env) := ⟨hk, b.glob, b.blt⟩
section
variable {w : World} {A : Around} {X : Addr → Prop} {h : Heap} {env : Env}
noncomputable def sameB : Option Value → Value → Bool
  | some (.builtin a), .builtin b => a == b
  | some (.type a), .type b => a == b
  | _, _ => false
theorem sameB_eq {o : Option Value} {v : Value} (h : sameB o v = true) : o = some v := by
  unfold sameB at h
  split at h
  · rw [eq_of_beq h]
  · rw [eq_of_beq h]
  · cases h
noncomputable def isBlt (P : Params) (x : Str) (v : Value) : Bool := (mgT P x).isNone && (sameB (bootBuiltins x) v && (!(x == ("__name__" : Str)) && !(x == ("__debug__" : Str))))
theorem isBlt_of {P : Params} {x : Str} {v : Value} (h : isBlt P x v = true) : mgT P x = Option.none ∧ bootBuiltins x = some v ∧ (x == ("__name__" : Str)) = false ∧ (x == ("__debug__" : Str)) = false := by
  obtain ⟨h1, h2⟩ := Bool.and_eq_true_iff.mp h
  obtain ⟨h2, h3⟩ := Bool.and_eq_true_iff.mp h2
  obtain ⟨h3, h4⟩ := Bool.and_eq_true_iff.mp h3
  exact ⟨Option.isNone_iff_eq_none.mp h1, sameB_eq h2, by simpa using h3, by simpa using h4⟩
theorem ev_b {x : Str} {pos : Pos} {v : Value} (t : TF w h) (b : Bse env) (hx : env.kindOf x = some .globalImplicit) (hb : isBlt w.params x v = true) : EV pwT w A env X h (.Name x pos) (.val v) := by
  obtain ⟨h1, h2, h3, h4⟩ := isBlt_of hb
  exact ev_blt t b.kind b.glob b.blt hx h1 h2 h3 h4
theorem ev_g {x : Str} {pos : Pos} {v : Value} (t : TF w h) (b : Bse env) (hx : env.kindOf x = some .globalImplicit) (h1 : mgT w.params x = some v) (hd : (x == ("__debug__" : Str)) = false) : EV pwT w A env X h (.Name x pos) (.val v) :=
  ev_glob t b.kind b.glob hx h1 hd
section
variable {px pos : Pos} {e e' : Expr}
theorem cLen {ds : List Dat} (t : TF w h) (b : Bse env) (hx : env.kindOf "len" = some .globalImplicit) (he : EV pwT w A env X h e (.list ds)) (hn : ds.length < 2 ^ 62) (hs : starEach [e] env = [(false, eval e env)]) : EV pwT w A env X h (.Call (.Name "len" px) [e] [] pos) (.int ds.length) :=
  EV.callB (ev_b t b hx (by kernel_rfl)) (.cons he .nil hs) (Fn.len (by omega)) hs fun _ => rfl
theorem cLenS {x : Str} (t : TF w h) (b : Bse env) (hx : env.kindOf "len" = some .globalImplicit) (he : EV pwT w A env X h e (.str x)) (hn : x.length < 2 ^ 62) (hs : starEach [e] env = [(false, eval e env)]) : EV pwT w A env X h (.Call (.Name "len" px) [e] [] pos) (.int x.length) :=
  EV.callB (ev_b t b hx (by kernel_rfl)) (.cons he .nil hs) (Fn.lenS (by omega)) hs fun _ => rfl
theorem cLenT {ds : List Dat} (t : TF w h) (b : Bse env) (hx : env.kindOf "len" = some .globalImplicit) (he : EV pwT w A env X h e (.tup ds)) (hn : ds.length < 2 ^ 62) (hs : starEach [e] env = [(false, eval e env)]) : EV pwT w A env X h (.Call (.Name "len" px) [e] [] pos) (.int ds.length) :=
  EV.callB (ev_b t b hx (by kernel_rfl)) (.cons he .nil hs) (Fn.lenT (by omega)) hs fun _ => rfl
theorem cChr {i : Int} (t : TF w h) (b : Bse env) (hx : env.kindOf "chr" = some .globalImplicit) (he : EV pwT w A env X h e (.int i)) (h0 : 0 ≤ i) (h1 : i ≤ 1114111) (hs : starEach [e] env = [(false, eval e env)]) : EV pwT w A env X h (.Call (.Name "chr" px) [e] [] pos) (.str ⟨#[i.toNat]⟩) :=
  EV.callB (ev_b t b hx (by kernel_rfl)) (.cons he .nil hs) (Fn.chr h0 h1) hs fun _ => rfl
theorem cSum {xs : List Int} (t : TF w h) (b : Bse env) (hh : A.handled = none) (hx : env.kindOf "sum" = some .globalImplicit) (he : EV pwT w A env X h e (.list (xs.map .int))) (hs : starEach [e] env = [(false, eval e env)]) : EV pwT w A env X h (.Call (.Name "sum" px) [e] [] pos) (.int xs.sum) :=
  EV.callB (ev_b t b hx (by kernel_rfl)) (.cons he .nil hs) (Fn.sum hh) hs fun _ => rfl
theorem cMax {xs : List Int} {m : Int} (t : TF w h) (b : Bse env) (hh : A.handled = none) (hx : env.kindOf "max" = some .globalImplicit) (he : EV pwT w A env X h e (.list (xs.map .int))) (hm : IsMax xs m) (hs : starEach [e] env = [(false, eval e env)]) : EV pwT w A env X h (.Call (.Name "max" px) [e] [] pos) (.int m) :=
  EV.callB (ev_b t b hx (by kernel_rfl)) (.cons he .nil hs) (Fn.max hh hm) hs fun _ => rfl
theorem cMin {xs : List Int} {m : Int} (t : TF w h) (b : Bse env) (hh : A.handled = none) (hx : env.kindOf "min" = some .globalImplicit) (he : EV pwT w A env X h e (.list (xs.map .int))) (hm : IsMin xs m) (hs : starEach [e] env = [(false, eval e env)]) : EV pwT w A env X h (.Call (.Name "min" px) [e] [] pos) (.int m) :=
  EV.callB (ev_b t b hx (by kernel_rfl)) (.cons he .nil hs) (Fn.min hh hm) hs fun _ => rfl
theorem cMax2 {i j : Int} (t : TF w h) (b : Bse env) (hh : A.handled = none) (hx : env.kindOf "max" = some .globalImplicit) (he : EV pwT w A env X h e (.int i)) (he' : EV pwT w A env X h e' (.int j)) (hs : starEach [e, e'] env = [(false, eval e env), (false, eval e' env)]) (hs' : starEach [e'] env = [(false, eval e' env)]) :
    EV pwT w A env X h (.Call (.Name "max" px) [e, e'] [] pos) (.int (max i j)) :=
  EV.callB (ev_b t b hx (by kernel_rfl)) (.cons he (.cons he' .nil hs') (by rw [hs, hs'])) (Fn.max2 hh) (by rw [hs, hs']) fun pos => by rw [hs']; rfl
theorem cMin2 {i j : Int} (t : TF w h) (b : Bse env) (hh : A.handled = none) (hx : env.kindOf "min" = some .globalImplicit) (he : EV pwT w A env X h e (.int i)) (he' : EV pwT w A env X h e' (.int j)) (hs : starEach [e, e'] env = [(false, eval e env), (false, eval e' env)]) (hs' : starEach [e'] env = [(false, eval e' env)]) :
    EV pwT w A env X h (.Call (.Name "min" px) [e, e'] [] pos) (.int (min i j)) :=
  EV.callB (ev_b t b hx (by kernel_rfl)) (.cons he (.cons he' .nil hs') (by rw [hs, hs'])) (Fn.min2 hh) (by rw [hs, hs']) fun pos => by rw [hs']; rfl
theorem cDivmod {i j : Int} (t : TF w h) (b : Bse env) (hx : env.kindOf "divmod" = some .globalImplicit) (he : EV pwT w A env X h e (.int i)) (he' : EV pwT w A env X h e' (.int j)) (hj : j ≠ 0) (hp : Builtin.divisionGoesByPylong i j = false) (hs : starEach [e, e'] env = [(false, eval e env), (false, eval e' env)]) (hs' : starEach [e'] env = [(false, eval e' env)]) :
    EV pwT w A env X h (.Call (.Name "divmod" px) [e, e'] [] pos) (.tup [.int (i.fdiv j), .int (i.fmod j)]) :=
  EV.callB (ev_b t b hx (by kernel_rfl)) (.cons he (.cons he' .nil hs') (by rw [hs, hs'])) (Fn.divmod hj hp) (by rw [hs, hs']) fun pos => by rw [hs']; rfl
theorem cTuple {ds : List Dat} (t : TF w h) (b : Bse env) (hx : env.kindOf "tuple" = some .globalImplicit) (he : EV pwT w A env X h e (.list ds)) (hn : ds.length ≤ sizeLine) (hs : starEach [e] env = [(false, eval e env)]) : EV pwT w A env X h (.Call (.Name "tuple" px) [e] [] pos) (.tup ds) :=
  EV.callT (ev_b t b hx (by kernel_rfl)) (.cons he .nil hs) (Fn.tupleL hn) hs fun _ => rfl
theorem sRange1 {y : Str} {py : Pos} {i : Int} (t : TF w h) (b : Bse env) (hh : A.handled = none) (hx : env.kindOf "range" = some .globalImplicit) (he : EV pwT w A env X h e (.int i)) (hsm : Builtin.Range.small 0 i 1 = true) (hs : starEach [e] env = [(false, eval e env)]) :
    Src pwT w A env X h (.Call (.Name "range" px) [e] [] pos) (.Name y py) [y] ((List.range i.toNat).map fun i : Nat => [Dat.int (i : Int)]) := Src.range1 (f := e) hh (ev_b t b hx (by kernel_rfl)) he hsm hs
theorem sRange2 {y : Str} {py : Pos} {i j : Int} (t : TF w h) (b : Bse env) (hh : A.handled = none) (hx : env.kindOf "range" = some .globalImplicit) (he : EV pwT w A env X h e (.int i)) (he' : EV pwT w A env X h e' (.int j)) (hsm : Builtin.Range.small i j 1 = true) (hs : starEach [e, e'] env = [(false, eval e env), (false, eval e' env)]) (hs' : starEach [e'] env = [(false, eval e' env)]) :
    Src pwT w A env X h (.Call (.Name "range" px) [e, e'] [] pos) (.Name y py) [y] ((List.range (j - i).toNat).map fun k : Nat => [Dat.int (i + (k : Int))]) := Src.range2 hh (ev_b t b hx (by kernel_rfl)) he he' hsm hs hs'
theorem sZip {es : List Expr} {ek : Nat} {ep : Pos} {xs : List Str} {ds ds' : List Dat} (t : TF w h) (b : Bse env) (hh : A.handled = none) (hx : env.kindOf "zip" = some .globalImplicit) (he : EV pwT w A env X h e (.list ds)) (he' : EV pwT w A env X h e' (.list ds'))
    (hnm : namesOf es = some xs) (hxs : xs.length = 2) (hs : starEach [e, e'] env = [(false, eval e env), (false, eval e' env)]) (hs' : starEach [e'] env = [(false, eval e' env)]) :
    Src pwT w A env X h (.Call (.Name "zip" px) [e, e'] [] pos) (.Tuple es ek ep) xs ((ds.zip ds').map fun p => [p.1, p.2]) := Src.zip2 hh (ev_b t b hx (by kernel_rfl)) he he' hnm hxs hs hs'
theorem wRange1 {i : Int} (t : TF w h) (b : Bse env) (hh : A.handled = none) (hx : env.kindOf "range" = some .globalImplicit) (he : EV pwT w A env X h e (.int i)) (hsm : Builtin.Range.small 0 i 1 = true) (hs : starEach [e] env = [(false, eval e env)]) :
    SrcW pwT w A env X h (.Call (.Name "range" px) [e] [] pos) ((List.range i.toNat).map fun i : Nat => Dat.int (i : Int)) := SrcW.range1 hh (ev_b t b hx (by kernel_rfl)) he hsm hs
theorem wRange2 {i j : Int} (t : TF w h) (b : Bse env) (hh : A.handled = none) (hx : env.kindOf "range" = some .globalImplicit) (he : EV pwT w A env X h e (.int i)) (he' : EV pwT w A env X h e' (.int j)) (hsm : Builtin.Range.small i j 1 = true) (hs : starEach [e, e'] env = [(false, eval e env), (false, eval e' env)]) (hs' : starEach [e'] env = [(false, eval e' env)]) :
    SrcW pwT w A env X h (.Call (.Name "range" px) [e, e'] [] pos) ((List.range (j - i).toNat).map fun k : Nat => Dat.int (i + (k : Int))) := SrcW.range2 hh (ev_b t b hx (by kernel_rfl)) he he' hsm hs hs'
theorem cJoin {x : Str} {ap : Pos} {k : Nat} {pc : Pos} {texts : List Str} (he : EV pwT w A env X h e (.list (texts.map .str))) (hok : JoinOk x texts = true) (hs : starEach [e] env = [(false, eval e env)]) (hline : (ap.endLine == pos.line) = true) (hb : attributeBase (.Constant (.str x) k pc) "join" env (eval (.Constant (.str x) k pc) env) = eval (.Constant (.str x) k pc) env) :
    EV pwT w A env X h (.Call (.Attribute (.Constant (.str x) k pc) "join" ap) [e] [] pos) (.str (Txt.join x texts)) :=
  EV.meth (d₀ := .str x) (ds := [.list (texts.map .str)]) PySem.F.plainAttrs_str PySem.F.slot_str_join PySem.F.type_str_join EV.str Has.str (.cons he .nil hs) (FnH.join hok) hb (by rw [hs]; rfl) hline hs (fun _ => rfl)
end
end
end Mine
end
end
section
open PySem PySem.W PyProof.Rows
set_option Elab.async false
set_option linter.unusedVariables false
namespace Mine
noncomputable def Plus (X : Addr → Prop) (l : Addr) : Addr → Prop := fun b => X b ∨ b = l
section
variable {prog : Program} {w : World} {A : Around} {env : Env} {X M X₀ M₀ : Addr → Prop} {h : Heap} {s s₀ : Shared} {E : Value → Shared → Prop} {ρ : List (Str × Dat)} {Q : Flow → Shared → Prop}
theorem RdL.away {Y : Addr → Prop} (q : ∀ b, Y b → X b ∨ ∀ o, ¬ Sg h b o) {vs : List Value} {ds : List Dat} (x : RdL X h vs ds) : RdL Y h vs ds := ⟨x.1, fun i v d a b => (x.2 i v d a b).away q⟩
theorem RdL.weak {Y : Addr → Prop} (q : ∀ b, Y b → X b) {vs : List Value} {ds : List Dat} (x : RdL X h vs ds) : RdL Y h vs ds := ⟨x.1, fun i v d a b => (x.2 i v d a b).weak q⟩
theorem RdL.plus {l : Addr} (q : ∀ o, ¬ Sg h l o) {vs : List Value} {ds : List Dat} (x : RdL X h vs ds) : RdL (Plus X l) h vs ds := x.away fun b z => z.elim .inl fun e => .inr (e ▸ q)
theorem Rd.plus {l : Addr} (q : ∀ o, ¬ Sg h l o) {v : Value} {d : Dat} (x : Rd X h v d) : Rd (Plus X l) h v d := x.away fun b z => z.elim .inl fun e => .inr (e ▸ q)
noncomputable def EVN (prog : Program) (w : World) (A : Around) (env : Env) (X : Addr → Prop) (h : Heap) (e : Expr) (ds : List Dat) : Prop :=
  ∀ (s : Shared) (E : Value → Shared → Prop), At X h s.heap → wpAny (model prog w) A (eval e env) (fun v s' => ∃ l vs, v = .ref l ∧ (∀ o, ¬ Sg s.heap l o) ∧ s'.heap.PlainList l vs.toArray ∧ RdL (Plus X l) s'.heap vs ds ∧ Kp s s') E s
theorem not_size {h : Heap} : ∀ o, ¬ Sg h h.objs.size o := fun o e => absurd (Heap.lt_size e.1) (Nat.lt_irrefl _)
theorem not_back {h h' : Heap} {l : Addr} (k : Ext h h') (q : ∀ o, ¬ Sg h' l o) : ∀ o, ¬ Sg h l o := fun o e => q o (k.kept _ _ e)
theorem EVN.list {es : List Expr} {ds : List Dat} {pos : Pos} (x : EVs prog w A env X h es ds) (hn : ds.length ≤ sizeLine) : EVN prog w A env X h (.List es pos) ds := fun s E k =>
  wpAny_List_spliced (wpAny_mono (x pos s E k) (fun vs s' q => ⟨by rw [q.1.1]; exact hn, s'.heap.objs.size, vs, rfl, not_back q.2.ext not_size, ⟨0, Heap.get?_push_size _ rfl⟩, (q.1.plus not_size).ext (Ext.push _ _), q.2.trans (Kp.push _ _)⟩) fun _ _ e => e)
theorem EVN.add {l r : Expr} {pos : Pos} {ds es : List Dat} (hl : EV prog w A env X h l (.list ds)) (hr : EV prog w A env X h r (.list es)) (hs : ds.length + es.length ≤ sizeLine) : EVN prog w A env X h (.BinOp l .Add r pos) (ds ++ es) := fun s E k =>
  wpAny_BinOp (hl.now k fun v s₁ r₁ k₁ => Gv.at hr k k₁ fun u s₂ r₂ k₀ k₂ => by
    obtain ⟨a, vs, rfl, hx, ⟨n, ha⟩, x⟩ := (r₁.ext k₂.ext).list_inv
    obtain ⟨b, us, rfl, hy, ⟨m, hb⟩, y⟩ := r₂.list_inv
    refine PySem.P.add_list ha hb ⟨s₂.heap.objs.size, vs ++ us, rfl, not_back k₀.ext not_size, ⟨0, ?_⟩, ((x.append y).plus not_size).ext (Ext.push _ _), k₀.trans (Kp.push _ _)⟩ (by simp only [List.size_toArray, x.1, y.1]; exact hs)
    rw [List.append_toArray]
    exact Heap.get?_push_size _ rfl)
theorem FS.not_own {μ : Str → Option Value} {I : Addr} (O : EnvOk env) (F : FS env h μ) (hI : ∀ o, ¬ Sg h I o) : ¬ Own env I := fun z => z.elim (F.fresh O hI).1 fun ⟨x, e⟩ => (F.fresh O hI).2 x e
theorem Fm.plus {s₁ : Shared} {l : Addr} {items : Array Value} (O : EnvOk env) (F : Fm env X M s₀ s ρ) (hl : ∀ o, ¬ Sg s.heap l o) (k : Kp s s₁) (hp : s₁.heap.PlainList l items) : Fm env (Plus X l) (Plus M l) s₀ s₁ ρ := by
  obtain ⟨μ, G, K⟩ := F.loc.st
  obtain ⟨n, hp⟩ := hp
  refine ⟨⟨μ, G.ext k.ext, fun p hp => ?_⟩, F.same.trans k, fun b hb => ?_, ⟨fun b hb => ?_, F.live.tab.ext k.ext⟩, fun b hb => ?_⟩
  · obtain ⟨v, e, r⟩ := K p hp
    exact ⟨v, e, (r.plus hl).ext k.ext⟩
  · rcases hb with hb | hb | rfl
    · exact F.apart b (.inl hb)
    · exact F.apart b (.inr hb)
    · exact not_back F.same.ext hl
  · rcases hb with hb | rfl
    · exact (F.live.ext k.ext).live b hb
    · exact ⟨_, hp, solid_cls rfl⟩
  · rcases hb with hb | rfl
    · exact F.own b hb
    · exact G.not_own O hl
theorem Stp.weakM {M' : Addr → Prop} {a b : Shared} (q : ∀ b, M b → M' b) (x : Stp env M a b) : Stp env M' a b := ⟨x.seq.weak q, fun b o nb nm e => x.kept b o nb (fun z => nm (q b z)) e, x.tab⟩
theorem Stp.fromPlus {l : Addr} {a b : Shared} (hl : ∀ o, ¬ Sg a.heap l o) (x : Stp env (Plus M l) a b) : Stp env M a b :=
  ⟨fun b' o nb e sq => x.seq b' o (fun z => z.elim nb fun q => hl o (q ▸ ⟨e, by obtain ⟨_, _, d⟩ := sq; exact solid_seq d⟩)) e sq, fun b' o nb nm e => x.kept b' o nb (fun z => z.elim nm fun q => hl o (q ▸ e)) e, x.tab⟩
theorem Run.own {x : Str} {px pos : Pos} {e : Expr} {ds : List Dat} {rest : List Stmt} (O : EnvOk env) (F : Fm env X M s₀ s ρ) (he : EVN prog w A env X s.heap e ds) (hx : Sto env x)
    (hs : swapsWith e (some (.Name x px)) pos.line env = pure false)
    (k : ∀ s' l vs, Fm env (Plus X l) (Plus M l) s₀ s' ((x, .val (.ref l)) :: drop x ρ) → Stp env M s s' → (∀ o, ¬ Sg s.heap l o) → s'.heap.PlainList l vs.toArray → RdL (Plus X l) s'.heap vs ds → Run prog w A env rest Q E s') :
    Run prog w A env (.Assign [.Name x px] e pos :: rest) Q E s := by
  refine ⟨wpAny_execs_cons (wpAny_Assign_Name (wpAny_mono (he s E F.at) (fun v s₁ q => ?_) fun _ _ e => e) hs)⟩
  obtain ⟨l, vs, rfl, hl, hp, r, k₁⟩ := q
  have F₁ := Fm.plus O F hl k₁ hp
  have F₂ : Fm env (Plus X l) Ø s₀ s₁ ρ := ⟨F₁.loc, F₁.same, fun b hb => F₁.apart b (hb.imp id fun z => z.elim), F₁.live, F₁.own⟩
  refine Fm.store O F₂ hx (.val (.ref l)) fun s' F' st => (k s' l vs ⟨F'.loc, F'.same, F₁.apart, F'.live, F'.own⟩ ?_ hl ?_ (r.mono (st.seq.weak fun _ z => z.elim))).out
  · exact (Stp.of k₁).trans (st.weakM fun _ z => z.elim)
  · obtain ⟨n, hp⟩ := hp
    exact ⟨n, st.seq _ _ (fun z => z) hp ⟨_, _, rfl⟩⟩
theorem Fm.lend {l : Addr} {vs : List Value} {ds : List Dat} {x : Str} (F : Fm env X M s₀ s ρ) (hX : ∀ b, X₀ b → X b) (hM : ∀ b, M₀ b → M b) (hv : ρ.lookup x = some (.val (.ref l))) (hl : s.heap.PlainList l vs.toArray) (hr : RdL X₀ s.heap vs ds) (hl0 : ¬ X₀ l) : Fm env X₀ M₀ s₀ s ((x, .list ds) :: drop x ρ) :=
  ⟨F.loc.lend hX hv hl hr hl0, F.same, fun b hb => F.apart b (hb.imp id (hM b)), ⟨fun b hb => F.live.live b (hX b hb), F.live.tab⟩, fun b hb => F.own b (hX b hb)⟩
theorem Run.forR {ι : Type} (r₀ : ι) (XI MI : ι → Addr → Prop) {ds : List Dat} {iter : Expr} {x : Str} {px : Pos} {body rest : List Stmt} {pos : Pos} (ρI : Nat → ι → List (Str × Dat)) (Ex : Nat → ι → Shared → Prop) (hMX : ∀ r b, MI r b → XI r b) (O : EnvOk env)
    (F : Fm env (XI r₀) (MI r₀) s₀ s (ρI 0 r₀)) (hx : Sto env x) (hsrc : SrcW prog w A env (XI r₀) s.heap iter ds) (hE : Ex 0 r₀ s)
    (hseq : ∀ i r s' b, Ex i r s' → XI r b → XI r₀ b ∨ ((∀ o, ¬ Sg s.heap b o) ∧ ∃ o items n, s'.heap.get? b = some o ∧ o.data = .seq items n))
    (hseqM : ∀ i r s' b, Ex i r s' → MI r b → MI r₀ b ∨ ∀ o, ¬ Sg s.heap b o)
    (hEx : ∀ i r s s', Ex i r s → (∀ b o, XI r b → Sg s.heap b o → Sg s'.heap b o) → SeqExt Ø s.heap s'.heap → Ex i r s')
    (turn : ∀ i d r s₁ E', ds[i]? = some d → Fm env (XI r) (MI r) s₀ s₁ ((x, d) :: drop x (ρI i r)) → Ex i r s₁ → Stp env (MI r₀) s s₁ → Run prog w A env body (fun f s₂ => Stp env (MI r) s₁ s₂ ∧
      match f with
      | .next | .cont => ∃ r', Fm env (XI r') (MI r') s₀ s₂ (ρI (i + 1) r') ∧ Ex (i + 1) r' s₂
      | .brk => Stp env (MI r₀) s s₂ → Run prog w A env rest Q E s₂
      | .ret v => Q (.ret v) s₂) E' s₁)
    (done : ∀ s' r, Fm env (XI r) (MI r) s₀ s' (ρI ds.length r) → Ex ds.length r s' → Stp env (MI r₀) s s' → Run prog w A env rest Q E s')
    (hs : ∀ x, foldedSetIterable iter env x = pure x) :
    Run prog w A env (.For (.Name x px) iter body [] pos :: rest) Q E s :=
  ⟨ex_forR r₀ XI MI ρI Ex hMX O F hx hsrc hE hseq hseqM hEx (fun i d r s₁ E' a b c c' => wpAny_mono (turn i d r s₁ E' a b c c').out (fun f s₂ q => ⟨q.1, by cases f with | brk => exact fun z => (q.2 z).out | _ => exact q.2⟩) fun _ _ e => e) (fun s' r a b c => (done s' r a b c).out) hs⟩
theorem Run.setItem {x : Str} {px ps pos : Pos} {idx e : Expr} {i : Int} {d : Dat} {l : Addr} {vs : List Value} {rest : List Stmt} (F : Fm env X M s₀ s ρ) (hM : M l) (hXl : X l) (hk : env.scope.kind = .function)
    (hv : ρ.lookup x = some (.val (.ref l))) (hrx : Rea env x) (hd : (x == ("__debug__" : Str) || x == ("__classdict__" : Str)) = false) (hl : s.heap.PlainList l vs.toArray)
    (he : EV prog w A env X s.heap e d) (hi : EV prog w A env X s.heap idx (.int i)) (h0 : 0 ≤ i) (hfit : i < 2 ^ 63) (hn : i < vs.length) (hsw : swapsWith e (some (.Subscript (.Name x px) idx ps)) pos.line env = pure false)
    (k : ∀ s' v, Fm env X M s₀ s' ρ → Stp env M s s' → Rd X s'.heap v d → s'.heap.PlainList l (vs.set i.toNat v).toArray → Run prog w A env rest Q E s') :
    Run prog w A env (.Assign [.Subscript (.Name x px) idx ps] e pos :: rest) Q E s :=
  ⟨ex_setItem F hM hXl hk hv hrx hd hl he hi h0 hfit hn hsw fun s' v a b c d => (k s' v a b c d).out⟩
theorem Run.append {x : Str} {px apos cpos pos : Pos} {e : Expr} {d : Dat} {l : Addr} {vs : List Value} {rest : List Stmt} (F : Fm env X M s₀ s ρ) (hM : M l) (hXl : X l) (hk : env.scope.kind = .function)
    (hv : ρ.lookup x = some (.val (.ref l))) (hrx : Rea env x) (hd : (x == ("__debug__" : Str) || x == ("__classdict__" : Str)) = false) (hl : s.heap.PlainList l vs.toArray) (hn : vs.length ≤ sizeLine)
    (he : EV prog w A env X s.heap e d) (hse : starEach [e] env = [(false, eval e env)])
    (hfew : ((backTo cpos (starEach [e] env)).all (fun x => !x.1) && (backToKw cpos (keywordEach [] env)).all (fun x => x.1.isSome) && decide ([e].length + ([] : List Keyword).length + (if ([] : List Keyword).isEmpty then 0 else 1) < 30)) = true)
    (hline : (apos.endLine == cpos.line) = true) (hbase : attributeBase (.Name x px) "append" env (eval (.Name x px) env) = eval (.Name x px) env) (hi : interactive env = false) (hsw : swapsWith (.Call (.Attribute (.Name x px) "append" apos) [e] [] cpos) none pos.line env = pure false)
    (k : ∀ s' v, Fm env X M s₀ s' ρ → Stp env M s s' → Rd X s'.heap v d → s'.heap.PlainList l (vs ++ [v]).toArray → Run prog w A env rest Q E s') :
    Run prog w A env (.Expr (.Call (.Attribute (.Name x px) "append" apos) [e] [] cpos) pos :: rest) Q E s :=
  ⟨ex_append F hM hXl hk hv hrx hd hl hn he hse hfew hline hbase hi hsw fun s' v a b c d => (k s' v a b c d).out⟩
variable {K : Frag} {C x : Addr}
theorem Run.setAttr {y name : Str} {py ap pos : Pos} {e : Expr} {d : Dat} {dx : Addr} {es : List DictEntry} {n : Nat} {rest : List Stmt} (F : Fm env X M s₀ s ρ) (hM : M dx) (hXd : X dx) (hk : env.scope.kind = .function)
    (hv : ρ.lookup y = some (.val (.ref x))) (hry : Rea env y) (hd : (y == ("__debug__" : Str) || y == ("__classdict__" : Str)) = false) (hK : KIn K s.heap) (hx : Sg s.heap x (instObj C dx)) (hdx : s.heap.get? dx = some (insD es n)) (hKd : ∀ o, K.lookup dx ≠ some o) (hxd : x ≠ dx)
    (hs : findIn K (.ref C) "__setattr__" = some (some (.builtin "object.__setattr__"))) (hp : plainOver K C = true) (ht : takerIn K C name = some none) (hh : (clsIn K C).any (·.hasDict) = true)
    (hl : (lookIn name (insD es n)).isSome = true) (hz : es.length < 1000) (hput : ∀ v tk, Obj.putName name (PyData.keyHash w.params name) (.str name tk) v (insD es n) = insD (es ++ [⟨PyData.keyHash w.params name, .str name tk, v⟩]) (n + 1))
    (he : EV prog w A env X s.heap e d) (hsw : swapsWith e (some (.Attribute (.Name y py) name ap)) pos.line env = pure false)
    (k : ∀ s' v tk, Fm env X M s₀ s' ρ → Stp env M s s' → Rd X s'.heap v d → s'.heap.get? dx = some (insD (es ++ [⟨PyData.keyHash w.params name, .str name tk, v⟩]) (n + 1)) → KIn K s'.heap → Sg s'.heap x (instObj C dx) → Run prog w A env rest Q E s') :
    Run prog w A env (.Assign [.Attribute (.Name y py) name ap] e pos :: rest) Q E s :=
  ⟨ex_setAttr F hM hXd hk hv hry hd hK hx hdx hKd hxd hs hp ht hh hl hz hput he hsw fun s' v tk a b c d e f => (k s' v tk a b c d e f).out⟩
end
end Mine
end
section
open PySem PySem.W PyProof.Rows
set_option Elab.async false
set_option linter.unusedVariables false
namespace Mine
section
variable {prog : Program} {w : World} {A : Around} {env : Env} {X M X₀ M₀ : Addr → Prop} {h : Heap} {s s₀ : Shared} {E : Value → Shared → Prop} {ρ : List (Str × Dat)} {Q : Flow → Shared → Prop} {K : Frag} {C : Addr}
noncomputable def inst0 (s : Shared) (C : Addr) : Shared := { s with heap := (s.heap.push emptyDict).push (instObj C s.heap.objs.size) }
theorem inst0_kp (s : Shared) (C : Addr) : Kp s (inst0 s C) := ⟨_, s.toks, rfl, (Ext.push _ _).trans (Ext.push _ _)⟩
theorem inst0_size (s : Shared) (C : Addr) : (inst0 s C).heap.objs.size = s.heap.objs.size + 2 := by
  show ((s.heap.push emptyDict).push _).objs.size = _
  rw [Heap.size_push, Heap.size_push]
theorem inst0_dict (s : Shared) (C : Addr) : (inst0 s C).heap.get? s.heap.objs.size = some emptyDict := Heap.get?_push_of_some _ (Heap.get?_push_size _ rfl)
theorem inst0_obj (s : Shared) (C : Addr) : (inst0 s C).heap.get? (s.heap.objs.size + 1) = some (instObj C s.heap.objs.size) := by
  have : (s.heap.push emptyDict).objs.size = s.heap.objs.size + 1 := Heap.size_push _ _
  show ((s.heap.push emptyDict).push _).get? _ = _
  rw [← this]; exact Heap.get?_push_size _ rfl
noncomputable def InitH (prog : Program) (w : World) (A : Around) (X : Addr → Prop) (h : Heap) (fI C : Addr) (d : Dat) (P : Heap → Addr → Addr → Prop) : Prop :=
  ∀ (s : Shared) (v : Value), At X h s.heap → Rd X s.heap v d →
    codeAny (model prog w) A (.call (.ref fI) ⟨[.ref (s.heap.objs.size + 1), v], []⟩) (fun r s' => match r with | .ok (.ret v') => v' = .none ∧ P s'.heap (s.heap.objs.size + 1) s.heap.objs.size ∧ Kp s s' | _ => False) (inst0 s C)
theorem InitH.intro {a : Addr} {fd : FuncData} {body : List Stmt} {x₁ x₂ : Str} {d : Dat} {P : Heap → Addr → Addr → Prop} (ho : IsDef h a fd) (hroom : A.depth < recursionLimit) (hlim : h.NoLimit) (hcd : CodeS h fd.code fd.qualname)
    (hbody : fd.body = .stmts body) (hnd : [x₁, x₂].Nodup)
    (hbind : ∀ v₁ v₂, bindArgs fd ⟨[v₁, v₂], []⟩ = pure [(x₁, v₁), (x₂, v₂)]) (hclo : fd.closure = [])
    (hkind : ∀ x ∈ [x₁, x₂], ∀ n, fd.scope.names.lookup x = some .local ∨ (fd.scope.names.lookup x = some .cell ∧ ((cellsFrom (n + 1) fd.scope.names []).lookup x).isSome = true))
    (k : ∀ (s s₁ : Shared) (E : Value → Shared → Prop) (env : Env) (dx : Addr), env = callEnvC fd (s.heap.objs.size + 2) a → dx = s.heap.objs.size → At X h s.heap → EnvOk env → Fm env (Plus X dx) (Plus Ø dx) s s₁ [(x₁, .val (.ref (dx + 1))), (x₂, d)] →
      s₁.heap.get? dx = some emptyDict → Sg s₁.heap (dx + 1) (instObj C dx) →
      Run prog w (A.deeper env) env body (fun f s' => (match f with | .ret v => v | _ => .none) = .none ∧ P s'.heap (dx + 1) dx ∧ Kp s s') E s₁)
    (hheld : ∀ n x c, (cellsFrom n fd.scope.names []).lookup x = some c → fd.scope.names.lookup x = some .cell) (hco : fd.scope.isCoroutine = false) (hgen : fd.scope.isGenerator = false) (hk : fd.scope.kind = .function) : InitH prog w A X h a C d P := by
  intro s v kx r
  obtain ⟨o, ho, hd⟩ := ho
  have k₀ := inst0_kp s C
  have kx₀ := kx.go k₀.ext
  have hz : ([(x₁, (Value.ref (s.heap.objs.size + 1))), (x₂, v)] : List (Str × Value)) = [x₁, x₂].zip [.ref (s.heap.objs.size + 1), v] := rfl
  refine codeAny_call_cells (binds := [(x₁, .ref (s.heap.objs.size + 1)), (x₂, v)]) hroom (kx₀.ext.get ho (solid_func hd)) hd (noLimitExt hlim kx₀.ext) (hcd.ext kx₀.ext).rec hbody (hbind _ _) hclo (fun x hx => hkind x.1 (by
    simp only [List.mem_cons, List.not_mem_nil, or_false] at hx ⊢; rcases hx with rfl | rfl <;> simp) _) (fun s₁ I => ?_) hco hgen hk
  rw [inst0_size] at I ⊢
  obtain ⟨h₁, t₁, e₁, k₁⟩ := I.done
  have ks' : Kp (inst0 s C) s₁ := ⟨h₁, t₁, e₁, .of k₁⟩
  have ks : Kp s s₁ := k₀.trans ks'
  have hsz : ∀ b, s.heap.objs.size + 2 ≤ b → (inst0 s C).heap.get? b = none := fun b hb => get_none_of_size (by rw [inst0_size]; exact hb)
  have hown : ∀ b, Own (callEnvC fd (s.heap.objs.size + 2) a) b → s.heap.objs.size + 2 ≤ b := fun b hb => by
    rcases hb with rfl | ⟨x, hx⟩
    · exact Nat.le_refl _
    · exact Nat.le_of_lt (I.above x b (PySem.mem_of_lookup hx))
  have hdx : s₁.heap.get? s.heap.objs.size = some emptyDict := ks'.ext.get (inst0_dict s C) (solid_cls rfl)
  have hox : Sg s₁.heap (s.heap.objs.size + 1) (instObj C s.heap.objs.size) := ks'.ext.kept _ _ ⟨inst0_obj s C, .inr fun ⟨e, _⟩ => by cases e⟩
  have rp : Rd (Plus X s.heap.objs.size) s₁.heap v d := (r.plus not_size).ext ks.ext
  refine (k s s₁ _ _ s.heap.objs.size rfl rfl kx ⟨hk, own_cells I.apart, fun x c hc => .inl (hheld _ x c hc)⟩ ⟨⟨⟨fun x => if (callEnvC fd (s.heap.objs.size + 2) a).kindOf x = some .local then bindL (callEnvC fd (s.heap.objs.size + 2) a).kindOf [(x₁, .ref (s.heap.objs.size + 1)), (x₂, v)] (fun _ => none) x else bindC (callEnvC fd (s.heap.objs.size + 2) a).kindOf [(x₁, .ref (s.heap.objs.size + 1)), (x₂, v)] (fun _ => none) x, ⟨⟨_, I.toInCall.ns, fun x hx => by rw [if_pos hx]⟩, fun x c hx hc => ?_⟩, ?_⟩⟩, ks, fun b hb o e => ?_, ⟨fun b hb => ?_, kx.live.tab.ext ks.ext⟩, fun b hb hq => ?_⟩ hdx hox).out
  · have : (callEnvC fd (s.heap.objs.size + 2) a).kindOf x ≠ some .local := by rcases hx with hx | hx <;> (rw [hx]; decide)
    rw [if_neg this]; exact I.cell x c hc
  · rw [hz]
    exact knows_zip (xs := [x₁, x₂]) (vs := [.ref (s.heap.objs.size + 1), v]) (ds := [.val (.ref (s.heap.objs.size + 1)), d]) (.cons (.val _) (.cons rp .nil)) fun x v hx => bind_look _ _ _ x v (by rw [← hz]; exact hnd) hx
  · rcases hb with hb | hb | rfl
    · exact Nat.lt_irrefl _ (Nat.lt_of_lt_of_le (Heap.lt_size e.1) (Nat.le_trans (Nat.le_add_right _ 2) (hown b hb)))
    · exact hb.elim
    · exact not_size o e
  · rcases hb with hb | rfl
    · obtain ⟨o, e⟩ := kx.live.live b hb; exact ⟨o, ks.ext.kept _ _ e⟩
    · exact ⟨_, hdx, solid_cls rfl⟩
  · have h2 := hown b hq
    rcases hb with hb | rfl
    · obtain ⟨o, e, _⟩ := kx.live.live b hb
      exact Nat.lt_irrefl _ (Nat.lt_of_lt_of_le (Heap.lt_size e) (Nat.le_trans (Nat.le_add_right _ 2) h2))
    · omega
theorem make_any {x : Str} {px pos : Pos} {e : Expr} {fI : Addr} {d : Dat} {P : Heap → Addr → Addr → Prop} (hf : EV prog w A env X h (.Name x px) (.val (.ref C))) (he : EV prog w A env X h e d) (hse : starEach [e] env = [(false, eval e env)])
    (hK : KIn K h) (hm : makesIn K C = true) (hkeep : keepIn K (.ref C) = true) (hi : findIn K (.ref C) "__init__" = some (some (.ref fI))) (ht : typeIn K (.ref fI) = some (.type "function"))
    (hI : ∀ v, InitH prog w (A.under (.builtin "type.__call__" ⟨[.ref C, v], []⟩)) X h fI C d P) (k : At X h s.heap) :
    wpAny (model prog w) A (eval (.Call (.Name x px) [e] [] pos) env) (fun v s' => ∃ a dx, v = .ref a ∧ P s'.heap a dx ∧ (∀ o, ¬ Sg s.heap a o) ∧ (∀ o, ¬ Sg s.heap dx o) ∧ Kp s s') E s :=
  wpAny_Call_NameR (hf.now k fun f s₁ r₁ k₁ => by
    cases r₁
    have hes : EVs prog w A env X h [e] [d] := .cons he .nil hse
    refine callWith_K (hK.ext (k.ext.trans k₁.ext)).in hkeep (wpAny_mono (hes pos s₁ E (k.go k₁.ext)) (fun vs s₂ q => ?_) fun _ _ e => e) (by rw [hse]; rfl) (by rfl)
    obtain ⟨q, k₂⟩ := q
    obtain ⟨v, rfl, r⟩ := q.one
    have kx := (k.go k₁.ext).go k₂.ext
    have K₂ := (hK.ext kx.ext).in
    refine ⟨K₂, wpAny_call ?_⟩
    have hI' := hI v s₂ v kx r
    have f1 : ∀ o, ¬ Sg s₂.heap (s₂.heap.objs.size + 1) o := fun o e => absurd (Heap.lt_size e.1) (Nat.not_lt.mpr (Nat.le_succ _))
    have f2 : ∀ o, ¬ Sg s₂.heap s₂.heap.objs.size o := not_size
    have g1 := not_back (k₁.trans k₂).ext f1
    have g2 := not_back (k₁.trans k₂).ext f2
    obtain ⟨hh, g, dd, t, os⟩ := s₂
    refine make_core (makes_of K₂ hm) (looks_findIn K₂ hi) (fun self => bind_fn K₂ self ht) (.inl rfl) (codeAny_mono hI' fun r s' z => ?_)
    rcases r with e' | (v' | _ | _ | _) <;> first | exact z.elim | skip
    exact ⟨z.1, _, _, rfl, z.2.1, g1, g2, (k₁.trans k₂).trans z.2.2⟩)
theorem Run.make {y : Str} {py : Pos} {x : Str} {px pos ps : Pos} {e : Expr} {fI : Addr} {d : Dat} {P : Heap → Addr → Addr → Prop} {rest : List Stmt} (O : EnvOk env) (F : Fm env X M s₀ s ρ) (hf : EV prog w A env X s.heap (.Name x px) (.val (.ref C))) (he : EV prog w A env X s.heap e d) (hse : starEach [e] env = [(false, eval e env)])
    (hK : KIn K s.heap) (hm : makesIn K C = true) (hkeep : keepIn K (.ref C) = true) (hi : findIn K (.ref C) "__init__" = some (some (.ref fI))) (ht : typeIn K (.ref fI) = some (.type "function"))
    (hI : ∀ v, InitH prog w (A.under (.builtin "type.__call__" ⟨[.ref C, v], []⟩)) X s.heap fI C d P) (hP : ∀ a b x dx, P a x dx → SeqExt Ø a b → (∀ o, Sg a x o → Sg b x o) → (∀ o, Sg a dx o → Sg b dx o) → P b x dx) (hx : Sto env y)
    (hs : swapsWith (.Call (.Name x px) [e] [] pos) (some (.Name y py)) ps.line env = pure false)
    (hnew : ρ.lookup y = none) (k : ∀ s' a dx, Fm env X M s₀ s' ((y, .val (.ref a)) :: ρ) → Stp env M s s' → P s'.heap a dx → ¬ Own env a → ¬ Own env dx → Run prog w A env rest Q E s') :
    Run prog w A env (.Assign [.Name y py] (.Call (.Name x px) [e] [] pos) ps :: rest) Q E s := by
  refine ⟨wpAny_execs_cons (wpAny_Assign_Name (wpAny_mono (make_any hf he hse hK hm hkeep hi ht hI F.at) (fun v s₁ q => ?_) fun _ _ e => e) hs)⟩
  obtain ⟨a, dx, rfl, hp, f1, f2, k₁⟩ := q
  obtain ⟨μ, G, _⟩ := id F.loc.st
  have F₁ := F.kp k₁
  have F₂ : Fm env X Ø s₀ s₁ ρ := ⟨F₁.loc, F₁.same, fun b hb => F₁.apart b (hb.imp id fun z => z.elim), F₁.live, F₁.own⟩
  refine Fm.store O F₂ hx (.val (.ref a)) fun s' F' st => (k s' a dx ⟨by have L := F'.loc; rw [drop_new hnew] at L; exact L, F'.same, F₁.apart, F'.live, F'.own⟩ ?_ ?_ (G.not_own O f1) (G.not_own O f2)).out
  · exact (Stp.of k₁).trans (st.weakM fun _ z => z.elim)
  · exact hP _ _ a dx hp st.seq (fun o e => st.kept a o (G.not_own O f1) (fun z => z) e) (fun o e => st.kept dx o (G.not_own O f2) (fun z => z) e)
theorem EV.clsAttr {o : Expr} {name : Str} {pos : Pos} {mc v : Value} {d : Dat} (ho : EV prog w A env X h o (.val (.ref C))) (hK : KIn K h) (hbase : attributeBase o name env (eval o env) = eval o env)
    (hr : readsIn K C mc = true) (hf : findCls K (.ref C) mc name = some (.val v)) (hh : handedIn v = true) (r : ∀ h', Rd X h' v d) (ht : ∀ o' r, letTemporaryGo o o' r = pure ()) :
    EV prog w A env X h (.Attribute o name pos) d := fun s E k => by
  rw [arm_eval_Attribute, hbase]
  refine wpAny_bind (ho.now k fun ov s₁ r₁ k₁ => ?_)
  cases r₁
  refine wpAny_bind (wpAny_standAt (wpAny_bind (wpAny_holding (cls_value (hK.ext (k.ext.trans k₁.ext)).in hr hf hh ?_))))
  rw [ht]
  exact wpAny_bind (wpAny_pure (wpAny_pure ⟨r _, k₁.trans (Kp.toks _ _)⟩))
theorem EV.imeth0 {x : Addr} {o : Expr} {name : Str} {apos pos : Pos} {od : Obj} {f : Addr} {fd : FuncData} {d : Dat} (ho : EV prog w A env X h o (.val (.ref x))) (hK : KIn K h) (hi : Ins h x C od)
    (hbase : attributeBase o name env (eval o env) = eval o env) (hga : findIn K (.ref C) "__getattribute__" = some (some (.builtin "object.__getattribute__"))) (hgk : findIn K (.ref C) "__getattr__" = some Option.none)
    (hf : findIn K (.ref C) name = some (some (.ref f))) (ht : typeIn K (.ref f) = some (.type "function")) (hs : shadowIn (some od) name = some false) (hkeep : keepIn K (.ref f) = true)
    (hc : FnH prog w A X h (.ref f) [.val (.ref x)] d) (hline : (apos.endLine == pos.line) = true) :
    EV prog w A env X h (.Call (.Attribute o name apos) [] [] pos) d := fun s E k => by
  rw [arm_eval_Call, hbase]
  refine wpAny_bind (ho.now k fun ov s₁ r₁ k₁ => ?_)
  cases r₁
  have kx := k.ext.trans k₁.ext
  obtain ⟨ox, I⟩ := (hi.ext kx).inst
  refine wpAny_bind (wpAny_standAt ?_)
  have hpos : methodCallPos true o env apos pos = pure pos := by unfold methodCallPos; simp [hline]
  unfold methodCall
  refine wpAny_bind (wpAny_holding (method_fn (hK.ext kx).in I hga hgk hf ht hs ?_))
  refine wpAny_bind (wpAny_of_eq hpos ?_)
  show wpAny _ _ (callWith pos (.ref f) [.ref x] (backTo pos (starEach [] env)) []) _ _ _
  exact callWith_K0 (hK.ext kx).in hkeep (wpAny_mono (hc s₁ E [.ref x] (k.go k₁.ext) (.cons (.val _) .nil)) (fun r s₃ z => ⟨z.1, k₁.trans z.2⟩) fun _ _ e => e)
theorem Fm.not_own_obj {x : Addr} {o : Obj} (O : EnvOk env) (F : Fm env X M s₀ s ρ) (hx : Sg s.heap x o) (hd : o.data = .plain) : ¬ Own env x := fun z => by
  obtain ⟨μ, G, _⟩ := F.loc.st
  rcases z with rfl | ⟨y, hy⟩
  · obtain ⟨m, ⟨o', es, ep, e', d', _⟩, _⟩ := G.ns
    rw [hx.1] at e'; cases e'
    rw [hd] at d'; cases d'
  · obtain ⟨o', e', d'⟩ := G.cell y x (O.held y x hy) hy
    rw [hx.1] at e'; cases e'
    rw [hd] at d'; cases d'
theorem Fm.setM (M' : Addr → Prop) (F : Fm env X M s₀ s ρ) (q : ∀ b, M' b → ∀ o, ¬ Sg s₀.heap b o) : Fm env X M' s₀ s ρ := ⟨F.loc, F.same, fun b hb => hb.elim (fun z => F.apart b (.inl z)) (q b), F.live, F.own⟩
theorem Fm.noM (F : Fm env X M s₀ s ρ) : Fm env X Ø s₀ s ρ := F.setM Ø fun _ z => z.elim
theorem getD_at {α : Type} {l : List α} {n : Nat} (d : α) (h : n < l.length) : l.getD n d = l[n] := by
  rw [List.getD, List.getElem?_eq_getElem h]; rfl
theorem mem_drop {p : Str × Dat} {x : Str} (h : p ∈ ρ) (q : (p.1 == x) = false) : p ∈ drop x ρ := List.mem_filter.mpr ⟨h, by rw [q]; rfl⟩
theorem Run.ifJ (J : Shared → Prop) (F : Fm env X M s₀ s ρ) {test : Expr} {body orelse rest : List Stmt} {pos : Pos} (c : Bool) (ht : TV prog w A env X s.heap test c)
    (k₁ : c = true → ∀ s', Kp s s' → Fm env X M s₀ s' ρ → Run prog w A env body (fun f s'' => f = .next ∧ J s'') E s')
    (k₂ : c = false → ∀ s', Kp s s' → Fm env X M s₀ s' ρ → Run prog w A env orelse (fun f s'' => f = .next ∧ J s'') E s')
    (k₃ : ∀ s', J s' → Run prog w A env rest Q E s') : Run prog w A env (.If test body orelse pos :: rest) Q E s :=
  Run.if F c ht fun s' k' F' => by
    cases c with
    | true => rw [if_pos rfl]; exact (k₁ rfl s' k' F').mono fun f s'' q => by obtain ⟨rfl, j⟩ := q; exact k₃ s'' j
    | false => rw [if_neg Bool.false_ne_true]; exact (k₂ rfl s' k' F').mono fun f s'' q => by obtain ⟨rfl, j⟩ := q; exact k₃ s'' j
theorem RdL.ints {X' : Addr → Prop} {h' : Heap} {vs : List Value} {xs : List Int} (r : RdL X h vs (xs.map .int)) : RdL X' h' vs (xs.map .int) := ⟨r.1, fun i v d a b => by
  have q := r.2 i v d a b
  obtain ⟨z, rfl⟩ : ∃ z, d = .int z := by
    rw [List.getElem?_map] at b
    cases e : xs[i]? with
    | none => rw [e] at b; cases b
    | some z => rw [e] at b; cases b; exact ⟨z, rfl⟩
  exact q.flat (d := .int z) trivial⟩
theorem Run.brk {pos : Pos} {rest : List Stmt} (h : Q .brk s) : Run prog w A env (.Break pos :: rest) Q E s := ⟨wpAny_execs_cons (wpAny_Break h)⟩
theorem RdL.set {vs : List Value} {ds : List Dat} {v : Value} {d : Dat} (r : RdL X h vs ds) (q : Rd X h v d) (n : Nat) : RdL X h (vs.set n v) (ds.set n d) := by
  refine ⟨by simp [r.1], fun i u e hu he => ?_⟩
  rw [List.getElem?_set] at hu he
  split at hu
  · rename_i hn
    rw [if_pos hn] at he
    split at hu
    · rename_i hl
      rw [if_pos (by rw [← r.1]; exact hl)] at he
      cases hu; cases he; exact q
    · cases hu
  · rename_i hn
    rw [if_neg hn] at he
    exact r.2 i u e hu he
theorem Stp.thenNew {M' : Addr → Prop} {l : Addr} {a b : Shared} (x : Stp env M s a) (y : Stp env (Plus M' l) a b) (q : ∀ b, M' b → M b) (hl : ∀ o, ¬ Sg s.heap l o) : Stp env M s b := by
  refine ⟨fun b' o nb e sq => ?_, fun b' o nb nm e => ?_, tab_trans x.tab y.tab⟩
  · have sq' := sq
    obtain ⟨_, _, d⟩ := sq'
    exact y.seq b' o (fun z => z.elim (fun z => nb (q _ z)) fun z => hl o (z ▸ ⟨e, solid_seq d⟩)) (x.seq b' o nb e sq) sq
  · exact y.kept b' o nb (fun z => z.elim (fun z => nm (q _ z)) fun z => hl o (z ▸ e)) (x.kept b' o nb nm e)
end
end Mine
end
section
open PySem PySem.W PyProof.Rows
set_option Elab.async false
set_option linter.unusedVariables false
namespace Mine
section
variable {prog : Program} {w : World} {A : Around} {env : Env} {X M X₀ M₀ : Addr → Prop} {h : Heap} {s s₀ : Shared} {E : Value → Shared → Prop} {ρ : List (Str × Dat)} {Q : Flow → Shared → Prop}
noncomputable abbrev lamFn (qual : Str) (params : Arguments) (body : Expr) (scope : Scope) (clos : List (Str × Addr)) (pm cv ct : Value) : FuncData := kla_fn "<lambda>" qual params body scope clos pm cv ct
noncomputable def LamAt (h : Heap) (f : Addr) (params : Arguments) (body : Expr) (scope : Scope) (clos : List (Str × Addr)) : Prop :=
  ∃ pm cv ct, h.get? f = some { cls := .type "function", data := .func (lamFn tblQ params body scope clos pm cv ct) } ∧ CodeS h cv tblQ
theorem LamAt.ext {h' : Heap} {f : Addr} {params : Arguments} {body : Expr} {scope : Scope} {clos : List (Str × Addr)} (x : LamAt h f params body scope clos) (k : Ext h h') : LamAt h' f params body scope clos :=
  let ⟨pm, cv, ct, a, b⟩ := x; ⟨pm, cv, ct, k.get a (solid_cls rfl), b.ext k⟩
theorem LamAt.isDef {f : Addr} {params : Arguments} {body : Expr} {scope : Scope} {clos : List (Str × Addr)} (x : LamAt h f params body scope clos) : ∃ fd, IsDef h f fd := let ⟨_, _, _, a, _⟩ := x; ⟨_, _, a, rfl⟩
theorem codeAmong_app {pos p : Pos} {c cv : Value} : ∀ (l : List Value), TriplesOk l → codeAmong p (l ++ [rawInt pos.line, rawInt pos.col, c]) = some cv → codeAmong p l = some cv ∨ cv = c
  | [], _, e => by
    simp only [List.nil_append, rawInt, codeAmong] at e
    split at e
    · cases e; exact .inr rfl
    · cases e
  | .int a _ :: .int b _ :: d :: r, ok, e => by
    simp only [List.cons_append, codeAmong] at e ⊢
    split at e
    · rename_i hh; cases e; rw [if_pos hh]; exact .inl rfl
    · rename_i hh; rw [if_neg hh]; exact codeAmong_app r ok e
theorem triples_app {pos : Pos} {c : Value} : ∀ (l : List Value), TriplesOk l → TriplesOk (l ++ [rawInt pos.line, rawInt pos.col, c])
  | [], _ => trivial
  | .int a _ :: .int b _ :: d :: r, ok => triples_app (l := r) ok
theorem TabAt.more {h h' : Heap} {ps : Array Value} {pos : Pos} {c : Addr} (t : TabAt h ps) (k : Heap.ExtBut tblA h h') (g : h'.get? tblA = some (tabObj (ps ++ #[rawInt pos.line, rawInt pos.col, .ref c]))) (hc : CodeS h' (.ref c) tblQ) : TabAt h' (ps ++ #[rawInt pos.line, rawInt pos.col, .ref c]) := by
  refine ⟨g, ?_, fun p cv e => ?_⟩
  · rw [Array.toList_append]; exact triples_app _ t.ok
  · rw [Array.toList_append] at e
    rcases codeAmong_app _ t.ok e with e | rfl
    · obtain ⟨c', o, vs, u, e1, e2, e4, e5⟩ := t.code p cv e
      exact ⟨c', o, vs, u, e1, ⟨k _ _ (Sg.ne e2 t.get) e2.1, e2.2⟩, e4, e5⟩
    · exact hc
theorem extBut_ext {h h' : Heap} {ps : Array Value} (t : TabAt h ps) (k : Heap.ExtBut tblA h h') {more : Array Value} (t' : TabAt h' (ps ++ more)) : Ext h h' := by
  refine ⟨fun b o e => ⟨k b o (Sg.ne e t.get) e.1, e.2⟩, fun qs u => ?_⟩
  have e := u.get
  rw [t.get] at e
  cases e
  exact ⟨more, t'⟩
theorem lam_tail {params : Arguments} {body : Expr} {scope : Scope} {pos : Pos} {firstLine : Nat} {mg : Str → Option Value} {clos : List (Str × Addr)} {ps : Array Value} {Q : Value → Shared → Prop} (hcl : closureFor scope env = pure clos) (hge : env.globals = mainGlobals) (hg : s.heap.Ns mainGlobals mg) (hcode : env.code = .ref tblC)
    (C : CodeHd s.heap tblC tblA) (t : TabAt s.heap ps) (hb : s.heap.BuiltinsAt mg tblA) (hgA : mainGlobals ≠ tblA)
    (hQ : ∀ f s', LamAt s'.heap f params body scope clos → Kp s s' → Q (.ref f) s') :
    wpAny (model prog w) A (makeTail "<lambda>" tblQ params (.expr body) scope env .none .none none pos firstLine) Q E s := by
  cases hf : codeAmong pos ps.toList with
  | some cv =>
    refine kla_makeTailHit hcl hge hg hcode C t.get t.ok hf hb fun ctv h' tk k _ => ?_
    have k1 : Kp s { s with heap := h'.push { cls := .type "function", data := .func (kla_fn "<lambda>" tblQ params body scope clos ((mg "__name__").getD .none) cv ctv) }, toks := tk } := ⟨_, _, rfl, (Ext.of k).trans (Ext.push _ _)⟩
    refine hQ _ _ ⟨_, cv, ctv, Heap.get?_push_size _ rfl, ?_⟩ k1
    exact CodeS.ext (t.code pos cv hf) k1.ext
  | none =>
    obtain ⟨bm, ob, hbm, hne0, hbg, hneP, hbo, hcls, hdict, hdata⟩ := hb
    have fin : ∀ (s₁ : Shared) (ctv : Value), Kp s s₁ → (∀ b o, s.heap.get? b = some o → s₁.heap.get? b = some o) → wpAny (model prog w) A (do
        let cv ← functionCode env pos firstLine "<lambda>" tblQ params scope (.expr body)
        let b ← builtinsFor mainGlobals env.builtins
        let m ← nsGet mainGlobals "__name__"
        let dc ← (pure .none : Sem Value)
        newObj (.type "function") (.func { name := "<lambda>", qualname := tblQ, params, body := .expr body, scope, globals := mainGlobals, closure := clos, defaults := .none, kwdefaults := .none, doc := dc, pyModule := m.getD .none, annotations := none, code := cv, closureTuple := ctv, builtins := b })) Q E s₁ := by
      intro s₁ ctv k₁ kk
      have C₁ := C.keeps kk
      have g₁ := kk _ _ t.get
      refine wpAny_bind (wpAny_functionCodeX hcode (C₁.code g₁ t.ok) (C₁.tab g₁) hf fun c' h' tk hx hge' hlt _ hrec htb ⟨P', _, _, ⟨o', vs', e1, e2, _⟩, _⟩ => ?_)
      have t₁ : TabAt s₁.heap ps := ⟨g₁, t.ok, fun p cv e => by obtain ⟨c, o, vs, u, a, b, r⟩ := t.code p cv e; exact ⟨c, o, vs, u, a, ⟨kk _ _ b.1, b.2⟩, r⟩⟩
      have hcs : CodeS h' (.ref c') tblQ := by
        obtain ⟨c, o, vs, u, a, b, r⟩ := hrec
        cases a
        rw [e1] at b; cases b
        exact ⟨c', _, vs, u, rfl, ⟨e1, solid_cls e2⟩, r⟩
      have t₂ := t₁.more hx htb.2 hcs
      have x₂ := extBut_ext t₁ hx t₂
      have hg' := nsExt hg (k₁.ext.trans x₂)
      refine wpAny_bind (wpAny_builtinsFor hg' hbm hne0 (hx _ _ hneP (kk _ _ hbo)) hcls hdict hdata ?_)
      refine wpAny_bind (wpAny_nsGet hg' ?_)
      refine wpAny_bind (wpAny_pure (wpAny_newObj_type ?_ (by size_fits)))
      have k2 : Kp s₁ { s₁ with heap := h'.push { cls := .type "function", data := .func (kla_fn "<lambda>" tblQ params body scope clos ((mg "__name__").getD .none) (.ref c') ctv) }, toks := tk } := ⟨_, _, rfl, x₂.trans (Ext.push _ _)⟩
      exact hQ _ _ ⟨_, _, ctv, Heap.get?_push_size _ rfl, hcs.ext (Ext.push _ _)⟩ (k₁.trans k2)
    unfold makeTail
    rw [hcl, hge]
    refine wpAny_bind (wpAny_pure ?_)
    cases clos with
    | nil =>
      simp only [List.isEmpty_nil, if_true]
      refine wpAny_bind (wpAny_pure ?_)
      exact fin s .none (Kp.refl s) fun _ _ e => e
    | cons q r =>
      simp only [List.isEmpty_cons, Bool.false_eq_true, if_false]
      refine wpAny_bind (wpAny_newTextTuple ?_)
      exact fin _ _ (Kp.push s _) fun _ _ e => Heap.get?_push_of_some _ e
theorem lam_any {params : Arguments} {body : Expr} {scope : Scope} {pos : Pos} {mg : Str → Option Value} {clos : List (Str × Addr)} {Q : Value → Shared → Prop} (hcl : closureFor scope env = pure clos) (hge : env.globals = mainGlobals) (hg : s.heap.Ns mainGlobals mg) (hcode : env.code = .ref tblC) (hq : env.qual ++ "<lambda>" = tblQ)
    (hdef : defaultsOf params env = ([], [])) (C : CodeHd s.heap tblC tblA) (t : Tab s.heap) (hb : s.heap.BuiltinsAt mg tblA) (hgA : mainGlobals ≠ tblA)
    (hQ : ∀ f s', LamAt s'.heap f params body scope clos → Kp s s' → Q (.ref f) s') :
    wpAny (model prog w) A (eval (.Lambda params body scope pos) env) Q E s := by
  refine kla_eval hdef ?_
  rw [hq, makeFunction_eq]
  simp only [List.zip_nil_right, List.filterMap_nil, List.isEmpty_nil, if_true, pure_bind]
  obtain ⟨ps, t⟩ := t
  exact lam_tail hcl hge hg hcode C t hb hgA hQ
noncomputable abbrev lamEnv (scope : Scope) (L f : Addr) (cv : Value) (clos : List (Str × Addr)) : Env := envX tblQ scope L f cv clos
theorem FnH.lam {f : Addr} {params : Arguments} {body : Expr} {scope : Scope} {clos : List (Str × Addr)} {x : Str} {d d' : Dat} {ρc : List (Str × Dat)} (hf : LamAt h f params body scope clos) (hlim : h.NoLimit) (hroom : A.depth < recursionLimit)
    (hco : scope.isCoroutine = false) (hgen : scope.isGenerator = false) (hk : scope.kind = .function) (hcell : ∀ y ∈ scope.names, y.2 ≠ .cell) (hloc : scope.names.lookup x = some .local)
    (hbind : ∀ pm cv ct v, bindArgs (lamFn tblQ params body scope clos pm cv ct) ⟨[v], []⟩ = pure [(x, v)])
    (hcl : ∀ y c, clos.lookup y = some c → ∃ v, h.IsCell c v) (hkc : ∀ y c, clos.lookup y = some c → scope.names.lookup y = some .free) (hinj : ∀ y z c, clos.lookup y = some c → clos.lookup z = some c → y = z)
    (hcap : ∀ p ∈ ρc, ∃ c v, clos.lookup p.1 = some c ∧ h.IsCell c (some v) ∧ Rd X h v p.2)
    (hbody : ∀ (L : Addr) (cv : Value) (h' : Heap), Ext h h' → Live X h' → Loc (lamEnv scope L f cv clos) X h' ((x, d) :: ρc) → EV prog w (A.deeper (lamEnv scope L f cv clos)) (lamEnv scope L f cv clos) X h' body d') :
    FnH prog w A X h (.ref f) [d] d' := by
  intro s E vs k r
  obtain ⟨v, rfl, rv⟩ := r.one
  obtain ⟨pm, cv, ct, ho, hcv⟩ := hf.ext k.ext
  refine wpAny_call (kla_callFunE hroom ho rfl hco hgen rfl hcv.rec ?_)
  rw [hbind]
  refine wpAny_pure (wpAny_newFunctionEnv hcell (fun y hy => by rw [List.mem_singleton.mp hy]; exact hloc) (fun h₁ hns hsb => ?_) hk)
  have k₁ : Kp s { s with heap := h₁, toks := s.toks + [(x, v)].length } := ⟨h₁, _, rfl, .of fun b o e => hsb.extBut b o (Nat.ne_of_lt (Heap.lt_size e)) (Heap.get?_push_of_some _ e)⟩
  have kx := k.go k₁.ext
  refine ⟨noLimitExt hlim kx.ext, kla_codeExpr ?_⟩
  have L : Loc (lamEnv scope s.heap.objs.size f cv clos) X h₁ ((x, d) :: ρc) := by
    refine ⟨⟨fun y => if scope.names.lookup y = some .local then [(x, v)].reverse.lookup y else (match clos.lookup y with | some c => (match (h₁.get? c) with | some ⟨_, _, .cell u, _⟩ => u | _ => none) | none => none), ⟨⟨_, hns, fun y hy => by rw [if_pos (show scope.names.lookup y = some .local from hy)]⟩, fun y c hy hc => ?_⟩, fun p hp => ?_⟩⟩
    · have hny : ¬ scope.names.lookup y = some .local := by rw [hkc y c hc]; decide
      show h₁.IsCell c (if scope.names.lookup y = some .local then _ else _)
      rw [if_neg hny]
      obtain ⟨u, hu⟩ := hcl y c hc
      obtain ⟨o, e, dd⟩ := IsCell.ext kx.ext hu
      have hc' : clos.lookup y = some c := hc
      rw [hc']
      have e' : h₁.get? c = some o := e
      obtain ⟨o1, o2, o3, o4⟩ := o
      cases dd
      refine ⟨_, e', ?_⟩
      simp only [e']
    · rcases List.mem_cons.mp hp with rfl | hp
      · refine ⟨v, (if_pos hloc).trans ?_, rv.ext k₁.ext⟩
        simp
      · obtain ⟨c, u, hc, hu, ru⟩ := hcap p hp
        have hny : ¬ scope.names.lookup p.1 = some .local := by rw [hkc _ c hc]; decide
        refine ⟨u, (if_neg hny).trans ?_, ru.ext kx.ext⟩
        obtain ⟨o, e, dd⟩ := IsCell.ext kx.ext hu
        have e' : h₁.get? c = some o := e
        rw [hc]
        obtain ⟨o1, o2, o3, o4⟩ := o
        cases dd
        simp only [e']
  refine wpAny_mono (hbody s.heap.objs.size cv h₁ kx.ext kx.live L _ _ ⟨Ext.refl _, kx.live⟩) (fun u s' q => ⟨q.1, k₁.trans q.2⟩) fun _ _ e => e
theorem EV.callLam {x : Str} {px pos pk lp : Pos} {a : Addr} {fd : FuncData} {e : Expr} {es : List Expr} {kn : Str} {ds : List Dat} {d : Dat} {params : Arguments} {body : Expr} {scope : Scope} {clos : List (Str × Addr)} {mg : Str → Option Value}
    (hf : EV prog w A env X h (.Name x px) (.val (.ref a))) (ha : EVs prog w A env X h (e :: es) ds)
    (hcl : closureFor scope env = pure clos) (hge : env.globals = mainGlobals) (hg : h.Ns mainGlobals mg) (hcode : env.code = .ref tblC) (hq : env.qual ++ "<lambda>" = tblQ)
    (hdef : defaultsOf params env = ([], [])) (C : CodeHd h tblC tblA) (hC : ∀ h', Ext h h' → CodeHd h' tblC tblA) (hb : ∀ h', Ext h h' → h'.BuiltinsAt mg tblA) (hgA : mainGlobals ≠ tblA)
    (hc : ∀ h' f, Ext h h' → LamAt h' f params body scope clos → FnA prog w A X h' (.ref a) ds [kn] [.val (.ref f)] d) (ho : IsDef h a fd) (he : starEach (e :: es) env = (false, eval e env) :: starEach es env) :
    EV prog w A env X h (.Call (.Name x px) (e :: es) [⟨some kn, .Lambda params body scope lp, pk⟩] pos) d := fun s E k =>
  wpAny_Call_Name_kw (hf.now k fun f s₁ r₁ k₁ => by
    cases r₁
    obtain ⟨o, ho, hd⟩ := ho
    refine PySem.callWith_function_kw (o := o) (fd := fd) (evalArgs_kw2 rfl (wpAny_mono (ha pos s₁ E (k.go k₁.ext)) (fun vs s₂ q => ?_) fun _ _ e => e) he)
    have kx := (k.go k₁.ext).go q.2.ext
    refine kwAll_cons (lam_any hcl hge (nsExt hg kx.ext) hcode hq hdef (hC _ kx.ext) kx.live.tab (hb _ kx.ext) hgA fun f s₃ hl k₃ => kwAll_nil ?_)
    have kx₃ := kx.go k₃.ext
    refine ⟨⟨kx₃.ext.get ho (solid_func hd), hd⟩, ?_⟩
    exact wpAny_mono (hc s₃.heap f kx₃.ext hl s₃ E vs [.ref f] (At.here kx₃.live) (q.1.ext k₃.ext) (.cons (.val _) .nil)) (fun r s₄ z => ⟨z.1, ((k₁.trans q.2).trans k₃).trans z.2⟩) fun _ _ e => e)
end
end Mine
end
section
open PySem PySem.W PyProof.Rows
set_option Elab.async false
set_option linter.unusedVariables false
namespace Mine
noncomputable def scopeOk (scope : Scope) (xs : List Str) : Bool :=
  scope.names.all (fun x => !(x.2 == .local) || scope.names.lookup x.1 == some .local) && scope.names.all (fun y => !(y.2 == .cell)) && xs.all (fun x => scope.names.lookup x == some .local)
noncomputable def capOk (env : Env) (scope : Scope) (cl : List (Str × Addr)) : Bool :=
  cl.all fun q => (env.kindOf q.1 == some .cell || env.kindOf q.1 == some .free) && !(scope.names.lookup q.1 == some .local) && ((relabel scope env).names.lookup q.1 == some .cell || (relabel scope env).names.lookup q.1 == some .free)
section
variable {prog : Program} {w : World} {A : Around} {env : Env} {X M X₀ M₀ : Addr → Prop} {h : Heap} {s s₀ : Shared} {E : Value → Shared → Prop} {ρ : List (Str × Dat)} {Q : Flow → Shared → Prop}
theorem beq_kind {a b : Option NameKind} (h : (a == b) = true) : a = b := eq_of_beq h
theorem CompOk.of {iter : Expr} {scope : Scope} {xs : List Str} {cl : List (Str × Addr)} (hf : ∀ x, foldedSetIterable iter env x = pure x) (hc : closureFor scope env = pure cl) (hk : scope.kind = .function) (hs : scopeOk scope xs = true) (hn : xs.Nodup) (hq : capOk env scope cl = true) (hlk : ∀ q ∈ cl, env.cells.lookup q.1 = some q.2)
    (hi : ∀ x y c, cl.lookup x = some c → cl.lookup y = some c → x = y) : CompOk env iter scope xs cl := by
  obtain ⟨hs, h3⟩ := Bool.and_eq_true_iff.mp hs
  obtain ⟨h1, h2⟩ := Bool.and_eq_true_iff.mp hs
  refine ⟨hf, hc, hk, fun x hx e => ?_, fun y hy e => ?_, fun x hx => ?_, hn, fun q hq' => ?_, hi⟩
  · have := List.all_eq_true.mp h1 x hx
    rw [e] at this
    simpa using this
  · have := List.all_eq_true.mp h2 y hy
    rw [e] at this
    simp at this
  · exact eq_of_beq (List.all_eq_true.mp h3 x hx)
  · have := List.all_eq_true.mp hq q hq'
    simp only [Bool.and_eq_true, Bool.or_eq_true, beq_iff_eq, Bool.not_eq_true', beq_eq_false_iff_ne, ne_eq] at this
    exact ⟨hlk q hq', this.1.1, this.1.2, this.2⟩
theorem inj_nil : ∀ (x y : Str) (c : Addr), ([] : List (Str × Addr)).lookup x = some c → ([] : List (Str × Addr)).lookup y = some c → x = y := fun x y c e => by simp at e
theorem inj_of {cl : List (Str × Addr)} (h : (cl.map (·.2)).Nodup) : ∀ (x y : Str) (c : Addr), cl.lookup x = some c → cl.lookup y = some c → x = y := fun x y c e f => by
  have hp : cl.Pairwise fun x y => x.2 ≠ y.2 := List.pairwise_map.mp h
  exact own_cells hp x y c e f
theorem Src.listN {α : Type} {e : Expr} {y : Str} {py : Pos} (items : List α) (f : α → Dat) (hh : A.handled = none) (he : EV prog w A env X h e (.list (items.map f))) : Src prog w A env X h e (.Name y py) [y] (items.map fun a => [f a]) :=
  Src.list hh he (by simp) (fun i d row hd hrow => by
    rw [List.getElem?_map] at hd hrow
    cases q : items[i]? with
    | none => rw [q] at hd; cases hd
    | some a => rw [q] at hd hrow; cases hd; cases hrow; exact Asg.name) (.inl ⟨_, _, rfl⟩)
theorem Src.listP {α : Type} {e : Expr} {es : List Expr} {ek : Nat} {ep : Pos} {xs : List Str} (items : List α) (f g : α → Dat) (hh : A.handled = none) (he : EV prog w A env X h e (.list (items.map fun a => .list [f a, g a]))) (hn : namesOf es = some xs) (hl : xs.length = 2) :
    Src prog w A env X h e (.Tuple es ek ep) xs (items.map fun a => [f a, g a]) :=
  Src.list hh he (by simp) (fun i d row hd hrow => by
    rw [List.getElem?_map] at hd hrow
    cases q : items[i]? with
    | none => rw [q] at hd; cases hd
    | some a => rw [q] at hd hrow; cases hd; cases hrow; exact Asg.list hh hn hl.symm) (.inr ⟨_, _, _, rfl⟩)
theorem Rea.cell {x : Str} (hk : env.kindOf x = some .cell) (hc : (env.cells.lookup x).isSome = true) : Rea env x := .inr ⟨.inl hk, Option.isSome_iff_exists.mp hc⟩
theorem Rea.free {x : Str} (hk : env.kindOf x = some .free) (hc : (env.cells.lookup x).isSome = true) : Rea env x := .inr ⟨.inr hk, Option.isSome_iff_exists.mp hc⟩
theorem Sto.cell {x : Str} (hk : env.kindOf x = some .cell) (hc : (env.cells.lookup x).isSome = true) : Sto env x := .inr ⟨hk, Option.isSome_iff_exists.mp hc⟩
noncomputable def CellN (env : Env) (cl : List (Str × Addr)) : Prop := ∀ q ∈ cl, Rea env q.1
noncomputable def StoN (env : Env) (cl : List (Str × Addr)) : Prop := ∀ q ∈ cl, Sto env q.1
theorem CellN.rea {cl : List (Str × Addr)} {x : Str} {c : Addr} (h : CellN env cl) (m : (x, c) ∈ cl) : Rea env x := h _ m
theorem StoN.sto {cl : List (Str × Addr)} {x : Str} {c : Addr} (h : StoN env cl) (m : (x, c) ∈ cl) : Sto env x := h _ m
theorem CellN.of {cl : List (Str × Addr)} (h : cl.all (fun q => env.kindOf q.1 == some .cell && env.cells.lookup q.1 == some q.2) = true) : CellN env cl ∧ StoN env cl := by
  have e : ∀ q ∈ cl, env.kindOf q.1 = some .cell ∧ env.cells.lookup q.1 = some q.2 := fun q hq => by
    have := List.all_eq_true.mp h q hq
    simpa using this
  exact ⟨fun q hq => .inr ⟨.inl (e q hq).1, _, (e q hq).2⟩, fun q hq => .inr ⟨(e q hq).1, _, (e q hq).2⟩⟩
theorem lookup_of_mem {cl : List (Str × Addr)} {q : Str × Addr} (hq : q ∈ cl) : ∃ c, cl.lookup q.1 = some c := by
  cases e : cl.lookup q.1 with
  | some c => exact ⟨c, rfl⟩
  | none =>
    rw [List.lookup_eq_none_iff] at e
    have := e q hq
    simp at this
theorem CellN.comp {iter : Expr} {scope : Scope} {xs : List Str} {cl : List (Str × Addr)} {C : Addr} (h : CompOk env iter scope xs cl) : CellN (compEnvC scope cl C env) cl := fun q hq => by
  obtain ⟨_, _, _, h4⟩ := h.cap q hq
  exact .inr ⟨h4, lookup_of_mem hq⟩
theorem caps_all {cl : List (Str × Addr)} (h : (ρ.map (·.1)).all (fun x => (cl.lookup x).isSome) = true) : caps cl ρ = ρ := by
  unfold caps
  refine List.filter_eq_self.mpr fun p hp => ?_
  exact List.all_eq_true.mp h p.1 (List.mem_map_of_mem hp)
theorem EV.comp1 {α : Type} {elt target iter : Expr} {ifs : List Expr} {scope : Scope} {pos : Pos} {y : Str} (cl : List (Str × Addr)) {ρ : List (Str × Dat)}
    (items : List α) (f : α → Dat) (p : α → Bool) (F : α → Dat) (hsrc : Src prog w A env X h iter target [y] (items.map fun a => [f a])) (L : Loc env X h ρ) (hX : Live X h) (C : CompOk env iter scope [y] cl)
    (hcap : (ρ.map (·.1)).all (fun x => (cl.lookup x).isSome) = true) (hsz : items.length ≤ sizeLine)
    (hbody : ∀ a ∈ items, ∀ (C : Addr) (Y : Addr → Prop) (h' : Heap), (∀ b, X b → Y b) → Ext h h' → Live Y h' → CellN (compEnvC scope cl C env) cl → Loc (compEnvC scope cl C env) Y h' ((y, f a) :: ρ) →
      Ifs prog w A (compEnvC scope cl C env) Y h' ifs (p a) ∧ (p a = true → EV prog w A (compEnvC scope cl C env) Y h' elt (F a))) :
    EV prog w A env X h (.ListComp elt [⟨target, iter, ifs, 0⟩] scope pos) (.list ((items.filter p).map F)) :=
  EV.comp items (fun a => [f a]) p F hsrc L hX C (fun _ _ => rfl) hsz fun a ha C' Y h' a1 a2 a3 a4 => hbody a ha C' Y h' a1 a2 a3 (CellN.comp C) (by rw [caps_all hcap] at a4; exact a4)
theorem EV.comp2 {α : Type} {elt target iter : Expr} {ifs : List Expr} {scope : Scope} {pos : Pos} {y z : Str} (cl : List (Str × Addr)) {ρ : List (Str × Dat)}
    (items : List α) (f g : α → Dat) (p : α → Bool) (F : α → Dat) (hsrc : Src prog w A env X h iter target [y, z] (items.map fun a => [f a, g a])) (L : Loc env X h ρ) (hX : Live X h) (C : CompOk env iter scope [y, z] cl)
    (hcap : (ρ.map (·.1)).all (fun x => (cl.lookup x).isSome) = true) (hsz : items.length ≤ sizeLine)
    (hbody : ∀ a ∈ items, ∀ (C : Addr) (Y : Addr → Prop) (h' : Heap), (∀ b, X b → Y b) → Ext h h' → Live Y h' → CellN (compEnvC scope cl C env) cl → Loc (compEnvC scope cl C env) Y h' ((y, f a) :: (z, g a) :: ρ) →
      Ifs prog w A (compEnvC scope cl C env) Y h' ifs (p a) ∧ (p a = true → EV prog w A (compEnvC scope cl C env) Y h' elt (F a))) :
    EV prog w A env X h (.ListComp elt [⟨target, iter, ifs, 0⟩] scope pos) (.list ((items.filter p).map F)) :=
  EV.comp items (fun a => [f a, g a]) p F hsrc L hX C (fun _ _ => rfl) hsz fun a ha C' Y h' a1 a2 a3 a4 => hbody a ha C' Y h' a1 a2 a3 (CellN.comp C) (by rw [caps_all hcap] at a4; exact a4)
theorem Run.comp1 {α : Type} {elt target iter : Expr} {ifs : List Expr} {scope : Scope} {pos spos : Pos} {y : Str} (cl : List (Str × Addr)) {ρ' : List (Str × Dat)} {x : Str} {px : Pos} {rest : List Stmt}
    (items : List α) (f : α → Dat) (p : α → Bool) (F : α → Dat) (O : EnvOk env) (Fr : Fm env X M s₀ s ρ) (hsrc : Src prog w A env X s.heap iter target [y] (items.map fun a => [f a])) (L : Loc env X s.heap ρ') (C : CompOk env iter scope [y] cl)
    (hcap : (ρ'.map (·.1)).all (fun x => (cl.lookup x).isSome) = true) (hsz : items.length ≤ sizeLine)
    (hbody : ∀ a ∈ items, ∀ (C : Addr) (Y : Addr → Prop) (h' : Heap), (∀ b, X b → Y b) → Ext s.heap h' → Live Y h' → CellN (compEnvC scope cl C env) cl → Loc (compEnvC scope cl C env) Y h' ((y, f a) :: ρ') →
      Ifs prog w A (compEnvC scope cl C env) Y h' ifs (p a) ∧ (p a = true → EV prog w A (compEnvC scope cl C env) Y h' elt (F a)))
    (hsw : swapsWith (.ListComp elt [⟨target, iter, ifs, 0⟩] scope pos) (some (.Name x px)) spos.line env = pure true) (hx : Sto env x) (hnew : ρ.lookup x = none)
    (k : ∀ s', Fm env X M s₀ s' ((x, .list ((items.filter p).map F)) :: ρ) → Stp env M s s' → Run prog w A env rest Q E s') :
    Run prog w A env (.Assign [.Name x px] (.ListComp elt [⟨target, iter, ifs, 0⟩] scope pos) spos :: rest) Q E s :=
  Run.assign_comp items (fun a => [f a]) p F O Fr hsrc L C (fun _ _ => rfl) hsz (fun a ha C' Y h' a1 a2 a3 a4 => hbody a ha C' Y h' a1 a2 a3 (CellN.comp C) (by rw [caps_all hcap] at a4; exact a4)) hsw hx fun s' F' st => k s' (by rw [drop_new hnew] at F'; exact F') st
theorem Run.comp2 {α : Type} {elt target iter : Expr} {ifs : List Expr} {scope : Scope} {pos spos : Pos} {y z : Str} (cl : List (Str × Addr)) {ρ' : List (Str × Dat)} {x : Str} {px : Pos} {rest : List Stmt}
    (items : List α) (f g : α → Dat) (p : α → Bool) (F : α → Dat) (O : EnvOk env) (Fr : Fm env X M s₀ s ρ) (hsrc : Src prog w A env X s.heap iter target [y, z] (items.map fun a => [f a, g a])) (L : Loc env X s.heap ρ') (C : CompOk env iter scope [y, z] cl)
    (hcap : (ρ'.map (·.1)).all (fun x => (cl.lookup x).isSome) = true) (hsz : items.length ≤ sizeLine)
    (hbody : ∀ a ∈ items, ∀ (C : Addr) (Y : Addr → Prop) (h' : Heap), (∀ b, X b → Y b) → Ext s.heap h' → Live Y h' → CellN (compEnvC scope cl C env) cl → Loc (compEnvC scope cl C env) Y h' ((y, f a) :: (z, g a) :: ρ') →
      Ifs prog w A (compEnvC scope cl C env) Y h' ifs (p a) ∧ (p a = true → EV prog w A (compEnvC scope cl C env) Y h' elt (F a)))
    (hsw : swapsWith (.ListComp elt [⟨target, iter, ifs, 0⟩] scope pos) (some (.Name x px)) spos.line env = pure true) (hx : Sto env x) (hnew : ρ.lookup x = none)
    (k : ∀ s', Fm env X M s₀ s' ((x, .list ((items.filter p).map F)) :: ρ) → Stp env M s s' → Run prog w A env rest Q E s') :
    Run prog w A env (.Assign [.Name x px] (.ListComp elt [⟨target, iter, ifs, 0⟩] scope pos) spos :: rest) Q E s :=
  Run.assign_comp items (fun a => [f a, g a]) p F O Fr hsrc L C (fun _ _ => rfl) hsz (fun a ha C' Y h' a1 a2 a3 a4 => hbody a ha C' Y h' a1 a2 a3 (CellN.comp C) (by rw [caps_all hcap] at a4; exact a4)) hsw hx fun s' F' st => k s' (by rw [drop_new hnew] at F'; exact F') st
theorem zip_map2 {α β : Type} (f : α → Dat) (g : β → Dat) (xs : List α) (ys : List β) : ((xs.map f).zip (ys.map g)).map (fun p => [p.1, p.2]) = (xs.zip ys).map fun p => [f p.1, g p.2] := by
  rw [List.zip_map, List.map_map]; rfl
theorem filter_all {α : Type} (l : List α) : l.filter (fun _ => true) = l := List.filter_eq_self.mpr fun _ _ => rfl
theorem Src.strN {e : Expr} {x y : Str} {px : Pos} (hh : A.handled = none) (he : EV prog w A env X h e (.str x)) : Src prog w A env X h e (.Name y px) [y] (x.cps.toList.map fun c => [.str ⟨#[c]⟩]) := Src.str (target := .Name y px) hh he
theorem Rm.call {n : Nat} (r : Rm A (n + 1)) (a : Addr) (b : Value) : Rm (A.under (.builtin "type.__call__" ⟨[.ref a, b], []⟩)) n := by
  have e1 : (A.under (.builtin "type.__call__" ⟨[.ref a, b], []⟩)).units = A.units + 1 := by kernel_rfl
  have e3 : Code.weight (.builtin "type.__call__" ⟨[.ref a, b], []⟩) = 1 := by kernel_rfl
  have e2 : (A.under (.builtin "type.__call__" ⟨[.ref a, b], []⟩)).depth = A.depth + 1 := by show A.depth + Code.weight _ = A.depth + 1; rw [e3]
  exact ⟨r.handled, by have := r.depth; rw [e2]; omega, by have := r.units; rw [e1]; omega⟩
end
end Mine
end
section
open PySem PySem.W PyProof.Rows
set_option Elab.async false
set_option linter.unusedVariables false
namespace Mine
section
variable {prog : Program} {w : World} {A : Around} {env : Env} {X M X₀ M₀ : Addr → Prop} {h : Heap} {s s₀ : Shared} {E : Value → Shared → Prop} {ρ : List (Str × Dat)} {Q : Flow → Shared → Prop}
theorem list_of_range {s₁ : Shared} (hh : A.handled = none) (hX : Live X s.heap) {r : Addr} {a b : Int} {t u v : Tok} (hr : IsRange s.heap r a b 1 t u v) (hsm : Builtin.Range.small a b 1 = true) (hlen : (b - a).toNat ≤ 2 ^ 24) (k₁ : Kp s₁ s) :
    wpAny (model prog w) A (call (.type "list") [.ref r]) (fun v s' => Rd X s'.heap v (.list ((List.range (b - a).toNat).map fun i : Nat => .int (a + (i : Int)))) ∧ Kp s₁ s') E s := by
  refine call_list_range hh hr hsm (n := (b - a).toNat) (rangeSize_nat a b) hlen fun h' tk acc' c' k hS' hacc => ⟨?_, k₁.trans ⟨_, _, rfl, .of k⟩⟩
  refine Rd.ofList (vs := acc'.toList) hX.new ⟨c', by simpa using hS'⟩ ⟨by simp [hacc.1], fun i v d hv hd => ?_⟩
  obtain ⟨tk, rfl⟩ := hacc.2 i v (by simpa using hv)
  rw [List.getElem?_map] at hd
  cases e : (List.range (b - a).toNat)[i]? with
  | none => rw [e] at hd; cases hd
  | some j =>
    rw [e] at hd
    obtain ⟨hj, e2⟩ := List.getElem?_eq_some_iff.mp e
    rw [List.getElem_range] at e2
    subst e2
    cases hd
    rw [Int.mul_one]; exact .int _ _
theorem evListRange2 {x y : Str} {px py p₁ p₂ : Pos} {e e' : Expr} {a b : Int} (hh : A.handled = none) (hl : EV prog w A env X h (.Name x px) (.val (.type "list"))) (hf : EV prog w A env X h (.Name y py) (.val (.type "range"))) (he : EV prog w A env X h e (.int a)) (he' : EV prog w A env X h e' (.int b))
    (hsm : Builtin.Range.small a b 1 = true) (hlen : (b - a).toNat ≤ 2 ^ 24) (hs : starEach [e, e'] env = [(false, eval e env), (false, eval e' env)]) (hs' : starEach [e'] env = [(false, eval e' env)])
    (hss : starEach [.Call (.Name y py) [e, e'] [] p₂] env = [(false, eval (.Call (.Name y py) [e, e'] [] p₂) env)]) :
    EV prog w A env X h (.Call (.Name x px) [.Call (.Name y py) [e, e'] [] p₂] [] p₁) (.list ((List.range (b - a).toNat).map fun i : Nat => .int (a + (i : Int)))) := fun s E k =>
  wpAny_Call_NameR (hl.now k fun f s₁ r₁ k₁ => by
    cases r₁
    refine PyProof.Rows.callWith_type1 (spliced_more ?_ hss) hss rfl
    refine call_type_any (k.go k₁.ext) hf (.cons he (.cons he' .nil hs') (by rw [hs, hs'])) (by rw [hs, hs']) (fun _ => by rw [hs']; rfl) fun s' vs k' r ks => ?_
    obtain ⟨v, u, rfl, r, r'⟩ := r.two
    cases r; cases r'
    refine call_range_2 (s := s') (spliced_none ?_)
    exact list_of_range (s := { s' with heap := s'.heap.push _, toks := s'.toks + 1 }) hh (k'.live.ext (Ext.push _ _)) (Heap.get?_push_size _ rfl) hsm hlen ((k₁.trans ks).trans ⟨_, _, rfl, Ext.push _ _⟩))
theorem evListRange1 {x y : Str} {px py p₁ p₂ : Pos} {e : Expr} {b : Int} (hh : A.handled = none) (hl : EV prog w A env X h (.Name x px) (.val (.type "list"))) (hf : EV prog w A env X h (.Name y py) (.val (.type "range"))) (he : EV prog w A env X h e (.int b))
    (hsm : Builtin.Range.small 0 b 1 = true) (hlen : b.toNat ≤ 2 ^ 24) (hs : starEach [e] env = [(false, eval e env)])
    (hss : starEach [.Call (.Name y py) [e] [] p₂] env = [(false, eval (.Call (.Name y py) [e] [] p₂) env)]) :
    EV prog w A env X h (.Call (.Name x px) [.Call (.Name y py) [e] [] p₂] [] p₁) (.list ((List.range b.toNat).map fun i : Nat => .int (i : Int))) := fun s E k =>
  wpAny_Call_NameR (hl.now k fun f s₁ r₁ k₁ => by
    cases r₁
    refine PyProof.Rows.callWith_type1 (spliced_more ?_ hss) hss rfl
    refine call_type_any (k.go k₁.ext) hf (.cons he .nil hs) hs (fun _ => rfl) fun s' vs k' r ks => ?_
    obtain ⟨v, rfl, rv⟩ := r.one
    cases rv
    refine call_range_1 (s := s') ?_
    refine spliced_none ?_
    refine wpAny_mono (list_of_range (b := b) (s := { s' with heap := s'.heap.push _, toks := s'.toks + 1 + 1 }) hh (k'.live.ext (Ext.push _ _)) (Heap.get?_push_size _ rfl) hsm (by simpa using hlen) ((k₁.trans ks).trans ⟨_, _, rfl, Ext.push _ _⟩)) (fun v s₂ q => ⟨?_, q.2⟩) fun _ _ e => e
    have e : ((List.range (b - 0).toNat).map fun i : Nat => Dat.int (0 + (i : Int))) = (List.range b.toNat).map fun i : Nat => Dat.int (i : Int) := by simp
    rw [← e]; exact q.1)
end
end Mine
end
section
open PySem PySem.W PyProof.Rows
set_option Elab.async false
set_option linter.unusedVariables false
set_option maxRecDepth 100000
noncomputable section
namespace Mine
variable {w : World} {A : Around} {X : Addr → Prop} {h : Heap} {env : Env}
theorem two_in {h : Heap} {a b : Addr} {o p : Obj} (e1 : h.get? a = some o) (e2 : h.get? b = some p) : Frag.In [(a, o), (b, p)] h := by
  intro c q e
  simp only [List.lookup] at e
  split at e
  · rename_i hc; cases e; rw [eq_of_beq hc]; exact e1
  · split at e
    · rename_i hc; cases e; rw [eq_of_beq hc]; exact e2
    · cases e
noncomputable def xsB : List Str := ["a", "x", "lo", "hi", "key"]
noncomputable def fdR (P : Params) : FuncData := match (o_7_94 P).data with | .func fd => fd | _ => default
noncomputable def fdL (P : Params) : FuncData := match (o_8_103 P).data with | .func fd => fd | _ => default
theorem TF.bindR (t : TF w h) {s : Shared} (k : Ext h s.heap) (va vx : Value) : BindsTo s (fdR w.params) ⟨[va, vx], []⟩ (xsB.zip [va, vx, .int 0 2224, .none, .none]) :=
  kp_binds (K := [(86, o_7_86 w.params), (87, o_7_87 w.params)]) (two_in (k.get ((t.obj 86 _ (by kernel_rfl) (by decide +kernel) (solid_cls (T := "tuple") rfl)).1) (solid_cls (T := "tuple") rfl)) (k.get ((t.obj 87 _ (by kernel_rfl) (by decide +kernel) (solid_cls (T := "dict") rfl)).1) (solid_cls (T := "dict") rfl))) fun S => by kernel_rfl
theorem TF.bindRk (t : TF w h) {s : Shared} (k : Ext h s.heap) (va vx vk : Value) : BindsTo s (fdR w.params) ⟨[va, vx], [("key", vk)]⟩ (xsB.zip [va, vx, .int 0 2224, .none, vk]) :=
  kp_binds (K := [(86, o_7_86 w.params), (87, o_7_87 w.params)]) (two_in (k.get ((t.obj 86 _ (by kernel_rfl) (by decide +kernel) (solid_cls (T := "tuple") rfl)).1) (solid_cls (T := "tuple") rfl)) (k.get ((t.obj 87 _ (by kernel_rfl) (by decide +kernel) (solid_cls (T := "dict") rfl)).1) (solid_cls (T := "dict") rfl))) fun S => by kernel_rfl
theorem TF.bindL (t : TF w h) {s : Shared} (k : Ext h s.heap) (va vx : Value) : BindsTo s (fdL w.params) ⟨[va, vx], []⟩ (xsB.zip [va, vx, .int 0 2238, .none, .none]) :=
  kp_binds (K := [(95, o_8_95 w.params), (96, o_8_96 w.params)]) (two_in (k.get ((t.obj 95 _ (by kernel_rfl) (by decide +kernel) (solid_cls (T := "tuple") rfl)).1) (solid_cls (T := "tuple") rfl)) (k.get ((t.obj 96 _ (by kernel_rfl) (by decide +kernel) (solid_cls (T := "dict") rfl)).1) (solid_cls (T := "dict") rfl))) fun S => by kernel_rfl
theorem TF.bindLk (t : TF w h) {s : Shared} (k : Ext h s.heap) (va vx vk : Value) : BindsTo s (fdL w.params) ⟨[va, vx], [("key", vk)]⟩ (xsB.zip [va, vx, .int 0 2238, .none, vk]) :=
  kp_binds (K := [(95, o_8_95 w.params), (96, o_8_96 w.params)]) (two_in (k.get ((t.obj 95 _ (by kernel_rfl) (by decide +kernel) (solid_cls (T := "tuple") rfl)).1) (solid_cls (T := "tuple") rfl)) (k.get ((t.obj 96 _ (by kernel_rfl) (by decide +kernel) (solid_cls (T := "dict") rfl)).1) (solid_cls (T := "dict") rfl))) fun S => by kernel_rfl
end Mine
end
end
section
open PySem PySem.W PyProof.Rows
set_option Elab.async false
set_option linter.unusedVariables false
set_option maxRecDepth 100000
noncomputable section
namespace Mine
variable {w : World} {A : Around} {X : Addr → Prop} {h : Heap} {env : Env}
noncomputable def halve (p : Nat → Bool) : Nat → Nat → Nat → Nat
  | 0, lo, _ => lo
  | k + 1, lo, hi => if lo < hi then (if p ((lo + hi) / 2) then halve p k ((lo + hi) / 2 + 1) hi else halve p k lo ((lo + hi) / 2)) else lo
theorem halve_end {p : Nat → Bool} {lo hi : Nat} (h : ¬ lo < hi) : ∀ k, halve p k lo hi = lo
  | 0 => rfl
  | k + 1 => if_neg h
noncomputable def ρB (ds : List Dat) (x : Int) (kd : Dat) (i : Nat × Nat) : List (Str × Dat) := [("lo", .int i.1), ("hi", .int i.2), ("a", .list ds), ("x", .int x), ("key", kd)]
noncomputable def ExB (p : Nat → Bool) (n R : Nat) (i : Nat × Nat) : Prop := i.2 ≤ n ∧ ∃ k, i.2 - i.1 ≤ k ∧ halve p k i.1 i.2 = R
theorem ExB.done {p : Nat → Bool} {n R : Nat} {i : Nat × Nat} (x : ExB p n R i) (h : ¬ i.1 < i.2) : i.1 = R := by
  obtain ⟨_, k, _, e⟩ := x
  rw [halve_end h] at e; exact e
theorem ExB.turn {p : Nat → Bool} {n R : Nat} {i : Nat × Nat} (x : ExB p n R i) (h : i.1 < i.2) :
    (p ((i.1 + i.2) / 2) = true → ExB p n R ((i.1 + i.2) / 2 + 1, i.2)) ∧ (p ((i.1 + i.2) / 2) = false → ExB p n R (i.1, (i.1 + i.2) / 2)) := by
  obtain ⟨h1, k, h2, e⟩ := x
  cases k with
  | zero => omega
  | succ k =>
    unfold halve at e
    rw [if_pos h] at e
    constructor
    · intro hp; rw [if_pos hp] at e; exact ⟨h1, k, by show i.2 - ((i.1 + i.2) / 2 + 1) ≤ k; omega, e⟩
    · intro hp; rw [if_neg (by rw [hp]; decide)] at e; exact ⟨by show (i.1 + i.2) / 2 ≤ n; omega, k, by show (i.1 + i.2) / 2 - i.1 ≤ k; omega, e⟩
theorem mid_int (a b : Nat) : ((a : Int) + (b : Int)).fdiv 2 = (((a + b) / 2 : Nat) : Int) := by
  rw [← Int.natCast_add]
  simp [Int.fdiv_eq_ediv_of_nonneg]
theorem two_div (x : Int) : Builtin.divisionGoesByPylong x 2 = false := PyProof.noPylong_small (by decide)
theorem item_at {xs : List Int} {m : Nat} (hm : m < xs.length) : (xs.map Dat.int)[((m : Nat) : Int).toNat]? = some (.int (xs.getD m 0)) := by
  simp [List.getD, hm]
theorem no_cells {ns : List (Str × NameKind)} (e : ∀ n, cellsFrom n ns [] = []) : ∀ (n : Nat) (x : Str) (c : Addr), (cellsFrom n ns []).lookup x = some c → ns.lookup x = some .cell := by
  intro n x c hc; rw [e n] at hc; simp at hc
theorem bisect_left_ok (t : TF w h) (hr : Rm A 4) {xs : List Int} {x : Int} (hn : xs.length < 2 ^ 20) : FnH pwT w A X h (.ref 103) [.list (xs.map .int), .int x] (.int (halve (fun i => decide (xs.getD i 0 < x)) xs.length 0 xs.length : Nat)) := by
  have hd : IsDef h 103 (fdL w.params) := t.fn (o := o_8_103 w.params) (by kernel_rfl) (by decide +kernel) rfl
  have hc : CodeS h (.ref 102) (Str.ofString "bisect_left") := t.code (o := o_8_102 w.params) (by kernel_rfl) (by decide +kernel) rfl ⟨_, _, rfl, rfl⟩
  refine FnA.toH (FnA.intro (xs := xsB) (ds' := [.list (xs.map .int), .int x, .int 0, .none, .none]) hd hr.room t.lim hc rfl rfl (by decide) ?_ rfl ?_ ?_ ?_ rfl rfl rfl)
  · intro s vs us k r ru
    obtain ⟨va, vx, rfl, ra, rx⟩ := r.two
    have : us = [] := List.length_eq_zero_iff.mp ru.1
    subst this
    exact ⟨_, t.bindL k.ext va vx, .cons ra (.cons rx (.cons (.int _ _) (.cons .none (.cons .none .nil))))⟩
  · intro y hy n
    have : ∀ y ∈ xsB, (stS (stN 8)).names.lookup y = some .local := by decide +kernel
    exact .inl (this y hy)
  · intro s s₁ E env henv k O F
    have K : ∀ y, y ∈ (["a", "x", "lo", "hi", "key", "mid"] : List Str) → env.kindOf y = some .local := by
      subst henv; show ∀ y ∈ (["a", "x", "lo", "hi", "key", "mid"] : List Str), (stS (stN 8)).names.lookup y = some .local; decide +kernel
    have hk : env.scope.kind = .function := by subst henv; rfl
    have hg : env.globals = 3 := by subst henv; rfl
    have hb : env.builtins = builtinsNs := by subst henv; rfl
    have hl : env.kindOf "len" = some .globalImplicit := by subst henv; kernel_rfl
    refine ex_if (c := false) F ?_ fun s₂ k₂ F₂ => wpAny_execs_nil ?_
    · exact TV.cmp (a := .int 0) (b := .int 0) (EV.name F.loc hk rfl (.inl (K _ (by decide))) rfl) EV.int Cmp.ltI rfl
    refine ex_if (c := true) F₂ ?_ fun s₃ k₃ F₃ => ?_
    · exact TV.cmp (a := .none) (b := .none) (EV.name F₂.loc hk rfl (.inl (K _ (by decide))) rfl) EV.none (Cmp.isN fun v => by nofun) rfl
    rw [if_pos rfl]
    refine ex_assign (d := .int xs.length) O F₃ ?_ (.inl (K _ (by decide))) (by subst henv; kernel_rfl) fun s₄ F₄ st₄ => wpAny_execs_nil ?_
    · have t₃ := t.ext (k.ext.trans F₃.same.ext)
      refine EV.cast (EV.callB (ds := [.list (xs.map .int)]) (ev_blt t₃ hk hg hb hl (by kernel_rfl) (by kernel_rfl) (by kernel_rfl) (by kernel_rfl)) (.cons (EV.name F₃.loc hk rfl (.inl (K _ (by decide))) rfl) .nil rfl) (Fn.len (by simp; omega)) rfl fun _ => rfl) (by simp)
    refine ex_if (c := true) F₄ ?_ fun s₅ k₅ F₅ => ?_
    · exact TV.cmp (a := .none) (b := .none) (EV.name F₄.loc hk rfl (.inl (K _ (by decide))) rfl) EV.none (Cmp.isN fun v => by nofun) rfl
    rw [if_pos rfl]
    have e₅ : ((("hi" : Str), Dat.int xs.length) :: drop "hi" (xsB.zip [Dat.list (xs.map .int), Dat.int x, Dat.int 0, Dat.none, Dat.none])) = [(("hi" : Str), Dat.int xs.length), ("a", Dat.list (xs.map .int)), ("x", Dat.int x), ("lo", Dat.int 0), ("key", Dat.none)] := by kernel_rfl
    have sub₀ : ∀ p ∈ ρB (xs.map .int) x .none (0, xs.length), p ∈ ((("hi" : Str), Dat.int xs.length) :: drop "hi" (xsB.zip [Dat.list (xs.map .int), Dat.int x, Dat.int 0, Dat.none, Dat.none])) := by
      rw [e₅]; intro p hp; simp only [ρB, List.mem_cons, List.not_mem_nil, or_false] at hp ⊢; rcases hp with rfl | rfl | rfl | rfl | rfl <;> simp
    refine ex_while (fun i : Nat × Nat => i.2 - i.1) (ρB (xs.map .int) x .none) (fun i _ => ExB (fun i => decide (xs.getD i 0 < x)) xs.length (halve (fun i => decide (xs.getD i 0 < x)) xs.length 0 xs.length) i) (0, xs.length) (F₅.sub sub₀) ⟨Nat.le_refl _, _, Nat.le_refl _, rfl⟩ ?_
    intro i s₆ F₆ E₆ st₆
    refine ⟨decide (i.1 < i.2), ?_, fun hlt s₇ E' F₇ k₇ => ?_, fun hge s₇ F₇ st₇ k₇ => wpAny_execs_nil ?_⟩
    · exact TV.cast (TV.cmp (a := .int i.1) (b := .int i.2) (EV.name F₆.loc hk rfl (.inl (K _ (by decide))) rfl) (EV.name F₆.loc hk rfl (.inl (K _ (by decide))) rfl) Cmp.ltI rfl) (by simp)
    · have hlt := of_decide_eq_true hlt
      have hm : (i.1 + i.2) / 2 < xs.length := by have := E₆.1; omega
      refine ex_assign (d := .int ((i.1 + i.2) / 2 : Nat)) O F₇ ?_ (.inl (K _ (by decide))) (by subst henv; kernel_rfl) fun s₈ F₈ st₈ => ?_
      · exact EV.cast (EV.bin (EV.bin (a := .int i.1) (b := .int i.2) (EV.name F₇.loc hk rfl (.inl (K _ (by decide))) rfl) (EV.name F₇.loc hk rfl (.inl (K _ (by decide))) rfl) Bin.addI) EV.int (Bin.divI (by decide) (two_div _))) (by rw [mid_int])
      refine ex_if (c := decide (xs.getD ((i.1 + i.2) / 2) 0 < x)) F₈ ?_ fun s₉ k₉ F₉ => ?_
      · exact TV.cmp (a := .int (xs.getD ((i.1 + i.2) / 2) 0)) (b := .int x) (EV.sub (a := .list (xs.map .int)) (b := .int ((i.1 + i.2) / 2 : Nat)) (EV.name F₈.loc hk rfl (.inl (K _ (by decide))) rfl) (EV.name F₈.loc hk rfl (.inl (K _ (by decide))) rfl)
          (Itm.list (Int.natCast_nonneg _) (by omega) (item_at hm))) (EV.name F₈.loc hk rfl (.inl (K _ (by decide))) rfl) Cmp.ltI rfl
      cases hp : decide (xs.getD ((i.1 + i.2) / 2) 0 < x) with
      | true =>
        rw [if_pos rfl]
        refine ex_assign (d := .int ((i.1 + i.2) / 2 + 1 : Nat)) O F₉ ?_ (.inl (K _ (by decide))) (by subst henv; kernel_rfl) fun s₁₀ F₁₀ st₁₀ => wpAny_execs_nil (wpAny_execs_nil ⟨rfl, ((i.1 + i.2) / 2 + 1, i.2), ?_, F₁₀.sub ?_, (E₆.turn hlt).1 hp, (st₈.trans (Stp.of k₉)).trans st₁₀⟩)
        · exact EV.cast (EV.bin (a := .int ((i.1 + i.2) / 2 : Nat)) (EV.name F₉.loc hk rfl (.inl (K _ (by decide))) rfl) EV.int Bin.addI) (by simp)
        · show i.2 - ((i.1 + i.2) / 2 + 1) < i.2 - i.1; omega
        · intro p hp; simp only [ρB, List.mem_cons, List.not_mem_nil, or_false] at hp; rcases hp with rfl | rfl | rfl | rfl | rfl <;> exact mem_of_look (by rfl)
      | false =>
        rw [if_neg Bool.false_ne_true]
        refine ex_assign (d := .int ((i.1 + i.2) / 2 : Nat)) O F₉ ?_ (.inl (K _ (by decide))) (by subst henv; kernel_rfl) fun s₁₀ F₁₀ st₁₀ => wpAny_execs_nil (wpAny_execs_nil ⟨rfl, (i.1, (i.1 + i.2) / 2), ?_, F₁₀.sub ?_, (E₆.turn hlt).2 hp, (st₈.trans (Stp.of k₉)).trans st₁₀⟩)
        · exact EV.name F₉.loc hk rfl (.inl (K _ (by decide))) rfl
        · show (i.1 + i.2) / 2 - i.1 < i.2 - i.1; omega
        · intro p hp; simp only [ρB, List.mem_cons, List.not_mem_nil, or_false] at hp; rcases hp with rfl | rfl | rfl | rfl | rfl <;> exact mem_of_look (by rfl)
    · have e := E₆.done (of_decide_eq_false hge)
      refine ex_return (d := .int (halve (fun i => decide (xs.getD i 0 < x)) xs.length 0 xs.length : Nat)) F₇ ?_ fun v s' r k₁ _ => ⟨r, k₁⟩
      rw [← e]
      exact EV.name F₇.loc hk rfl (.inl (K _ (by decide))) rfl
  · exact no_cells (ns := (stS (stN 8)).names) (by intro n; kernel_rfl)
end Mine
end
end
section
open PySem PySem.W PyProof.Rows
set_option Elab.async false
set_option linter.unusedVariables false
set_option maxRecDepth 100000
noncomputable section
namespace Mine
variable {w : World} {A : Around} {X : Addr → Prop} {h : Heap} {env : Env}
theorem getD_memI {xs : List Int} {m : Nat} (hm : m < xs.length) : xs.getD m 0 ∈ xs := by
  rw [List.getD_eq_getElem?_getD, List.getElem?_eq_getElem hm]; exact List.getElem_mem hm
theorem bisect_right_ok (t : TF w h) (hr : Rm A 4) {xs : List Int} {x : Int} (hn : xs.length < 2 ^ 20) : FnH pwT w A X h (.ref 94) [.list (xs.map .int), .int x] (.int (halve (fun i => !decide (x < xs.getD i 0)) xs.length 0 xs.length : Nat)) := by
  have hd : IsDef h 94 (fdR w.params) := t.fn (o := o_7_94 w.params) (by kernel_rfl) (by decide +kernel) rfl
  have hc : CodeS h (.ref 93) (Str.ofString "bisect_right") := t.code (o := o_7_93 w.params) (by kernel_rfl) (by decide +kernel) rfl ⟨_, _, rfl, rfl⟩
  refine FnA.toH (FnA.intro (xs := xsB) (ds' := [.list (xs.map .int), .int x, .int 0, .none, .none]) hd hr.room t.lim hc rfl rfl (by decide) ?_ rfl ?_ ?_ ?_ rfl rfl rfl)
  · intro s vs us k r ru
    obtain ⟨va, vx, rfl, ra, rx⟩ := r.two
    have : us = [] := List.length_eq_zero_iff.mp ru.1
    subst this
    exact ⟨_, t.bindR k.ext va vx, .cons ra (.cons rx (.cons (.int _ _) (.cons .none (.cons .none .nil))))⟩
  · intro y hy n
    have : ∀ y ∈ xsB, (stS (stN 7)).names.lookup y = some .local := by decide +kernel
    exact .inl (this y hy)
  · intro s s₁ E env henv k O F
    have K : ∀ y, y ∈ (["a", "x", "lo", "hi", "key", "mid"] : List Str) → env.kindOf y = some .local := by
      subst henv; show ∀ y ∈ (["a", "x", "lo", "hi", "key", "mid"] : List Str), (stS (stN 7)).names.lookup y = some .local; decide +kernel
    have hk : env.scope.kind = .function := by subst henv; rfl
    have hg : env.globals = 3 := by subst henv; rfl
    have hb : env.builtins = builtinsNs := by subst henv; rfl
    have hl : env.kindOf "len" = some .globalImplicit := by subst henv; kernel_rfl
    refine ex_if (c := false) F ?_ fun s₂ k₂ F₂ => wpAny_execs_nil ?_
    · exact TV.cmp (a := .int 0) (b := .int 0) (EV.name F.loc hk rfl (.inl (K _ (by decide))) rfl) EV.int Cmp.ltI rfl
    refine ex_if (c := true) F₂ ?_ fun s₃ k₃ F₃ => ?_
    · exact TV.cmp (a := .none) (b := .none) (EV.name F₂.loc hk rfl (.inl (K _ (by decide))) rfl) EV.none (Cmp.isN fun v => by nofun) rfl
    rw [if_pos rfl]
    refine ex_assign (d := .int xs.length) O F₃ ?_ (.inl (K _ (by decide))) (by subst henv; kernel_rfl) fun s₄ F₄ st₄ => wpAny_execs_nil ?_
    · have t₃ := t.ext (k.ext.trans F₃.same.ext)
      refine EV.cast (EV.callB (ds := [.list (xs.map .int)]) (ev_blt t₃ hk hg hb hl (by kernel_rfl) (by kernel_rfl) (by kernel_rfl) (by kernel_rfl)) (.cons (EV.name F₃.loc hk rfl (.inl (K _ (by decide))) rfl) .nil rfl) (Fn.len (by simp; omega)) rfl fun _ => rfl) (by simp)
    refine ex_if (c := true) F₄ ?_ fun s₅ k₅ F₅ => ?_
    · exact TV.cmp (a := .none) (b := .none) (EV.name F₄.loc hk rfl (.inl (K _ (by decide))) rfl) EV.none (Cmp.isN fun v => by nofun) rfl
    rw [if_pos rfl]
    have e₅ : ((("hi" : Str), Dat.int xs.length) :: drop "hi" (xsB.zip [Dat.list (xs.map .int), Dat.int x, Dat.int 0, Dat.none, Dat.none])) = [(("hi" : Str), Dat.int xs.length), ("a", Dat.list (xs.map .int)), ("x", Dat.int x), ("lo", Dat.int 0), ("key", Dat.none)] := by kernel_rfl
    have sub₀ : ∀ p ∈ ρB (xs.map .int) x .none (0, xs.length), p ∈ ((("hi" : Str), Dat.int xs.length) :: drop "hi" (xsB.zip [Dat.list (xs.map .int), Dat.int x, Dat.int 0, Dat.none, Dat.none])) := by
      rw [e₅]; intro p hp; simp only [ρB, List.mem_cons, List.not_mem_nil, or_false] at hp ⊢; rcases hp with rfl | rfl | rfl | rfl | rfl <;> simp
    refine ex_while (fun i : Nat × Nat => i.2 - i.1) (ρB (xs.map .int) x .none) (fun i _ => ExB (fun i => !decide (x < xs.getD i 0)) xs.length (halve (fun i => !decide (x < xs.getD i 0)) xs.length 0 xs.length) i) (0, xs.length) (F₅.sub sub₀) ⟨Nat.le_refl _, _, Nat.le_refl _, rfl⟩ ?_
    intro i s₆ F₆ E₆ st₆
    refine ⟨decide (i.1 < i.2), ?_, fun hlt s₇ E' F₇ k₇ => ?_, fun hge s₇ F₇ st₇ k₇ => wpAny_execs_nil ?_⟩
    · exact TV.cast (TV.cmp (a := .int i.1) (b := .int i.2) (EV.name F₆.loc hk rfl (.inl (K _ (by decide))) rfl) (EV.name F₆.loc hk rfl (.inl (K _ (by decide))) rfl) Cmp.ltI rfl) (by simp)
    · have hlt := of_decide_eq_true hlt
      have hm : (i.1 + i.2) / 2 < xs.length := by have := E₆.1; omega
      refine ex_assign (d := .int ((i.1 + i.2) / 2 : Nat)) O F₇ ?_ (.inl (K _ (by decide))) (by subst henv; kernel_rfl) fun s₈ F₈ st₈ => ?_
      · exact EV.cast (EV.bin (EV.bin (a := .int i.1) (b := .int i.2) (EV.name F₇.loc hk rfl (.inl (K _ (by decide))) rfl) (EV.name F₇.loc hk rfl (.inl (K _ (by decide))) rfl) Bin.addI) EV.int (Bin.divI (by decide) (two_div _))) (by rw [mid_int])
      refine ex_if (c := decide (x < xs.getD ((i.1 + i.2) / 2) 0)) F₈ ?_ fun s₉ k₉ F₉ => ?_
      · exact TV.cmp (a := .int x) (b := .int (xs.getD ((i.1 + i.2) / 2) 0)) (EV.name F₈.loc hk rfl (.inl (K _ (by decide))) rfl) (EV.sub (a := .list (xs.map .int)) (b := .int ((i.1 + i.2) / 2 : Nat)) (EV.name F₈.loc hk rfl (.inl (K _ (by decide))) rfl) (EV.name F₈.loc hk rfl (.inl (K _ (by decide))) rfl)
          (Itm.list (Int.natCast_nonneg _) (by omega) (item_at hm))) Cmp.ltI rfl
      cases hp : decide (x < xs.getD ((i.1 + i.2) / 2) 0) with
      | true =>
        rw [if_pos rfl]
        refine ex_assign (d := .int ((i.1 + i.2) / 2 : Nat)) O F₉ ?_ (.inl (K _ (by decide))) (by subst henv; kernel_rfl) fun s₁₀ F₁₀ st₁₀ => wpAny_execs_nil (wpAny_execs_nil ⟨rfl, (i.1, (i.1 + i.2) / 2), ?_, F₁₀.sub ?_, (E₆.turn hlt).2 (by rw [hp]; rfl), (st₈.trans (Stp.of k₉)).trans st₁₀⟩)
        · exact EV.name F₉.loc hk rfl (.inl (K _ (by decide))) rfl
        · show (i.1 + i.2) / 2 - i.1 < i.2 - i.1; omega
        · intro p hp; simp only [ρB, List.mem_cons, List.not_mem_nil, or_false] at hp; rcases hp with rfl | rfl | rfl | rfl | rfl <;> exact mem_of_look (by rfl)
      | false =>
        rw [if_neg Bool.false_ne_true]
        refine ex_assign (d := .int ((i.1 + i.2) / 2 + 1 : Nat)) O F₉ ?_ (.inl (K _ (by decide))) (by subst henv; kernel_rfl) fun s₁₀ F₁₀ st₁₀ => wpAny_execs_nil (wpAny_execs_nil ⟨rfl, ((i.1 + i.2) / 2 + 1, i.2), ?_, F₁₀.sub ?_, (E₆.turn hlt).1 (by rw [hp]; rfl), (st₈.trans (Stp.of k₉)).trans st₁₀⟩)
        · exact EV.cast (EV.bin (a := .int ((i.1 + i.2) / 2 : Nat)) (EV.name F₉.loc hk rfl (.inl (K _ (by decide))) rfl) EV.int Bin.addI) (by simp)
        · show i.2 - ((i.1 + i.2) / 2 + 1) < i.2 - i.1; omega
        · intro p hp; simp only [ρB, List.mem_cons, List.not_mem_nil, or_false] at hp; rcases hp with rfl | rfl | rfl | rfl | rfl <;> exact mem_of_look (by rfl)
    · have e := E₆.done (of_decide_eq_false hge)
      refine ex_return (d := .int (halve (fun i => !decide (x < xs.getD i 0)) xs.length 0 xs.length : Nat)) F₇ ?_ fun v s' r k₁ _ => ⟨r, k₁⟩
      rw [← e]
      exact EV.name F₇.loc hk rfl (.inl (K _ (by decide))) rfl
  · exact no_cells (ns := (stS (stN 7)).names) (by intro n; kernel_rfl)
theorem bisect_left_key_ok (t : TF w h) (hr : Rm A 4) {xs : List Int} {x : Int} {f : Addr} {fdf : FuncData} {g : Int → Int} (hf : IsDef h f fdf) (hfn : ∀ env, ∀ y ∈ xs, FnH pwT w (A.deeper env) X h (.ref f) [.int y] (.int (g y))) (hn : xs.length < 2 ^ 20) : FnA pwT w A X h (.ref 103) [.list (xs.map .int), .int x] ["key"] [.val (.ref f)] (.int (halve (fun i => decide (g (xs.getD i 0) < x)) xs.length 0 xs.length : Nat)) := by
  have hd : IsDef h 103 (fdL w.params) := t.fn (o := o_8_103 w.params) (by kernel_rfl) (by decide +kernel) rfl
  have hc : CodeS h (.ref 102) (Str.ofString "bisect_left") := t.code (o := o_8_102 w.params) (by kernel_rfl) (by decide +kernel) rfl ⟨_, _, rfl, rfl⟩
  refine (FnA.intro (xs := xsB) (ds' := [.list (xs.map .int), .int x, .int 0, .none, .val (.ref f)]) hd hr.room t.lim hc rfl rfl (by decide) ?_ rfl ?_ ?_ ?_ rfl rfl rfl)
  · intro s vs us k r ru
    obtain ⟨va, vx, rfl, ra, rx⟩ := r.two
    obtain ⟨vk, rfl, rk⟩ := ru.one
    exact ⟨_, t.bindLk k.ext va vx vk, .cons ra (.cons rx (.cons (.int _ _) (.cons .none (.cons rk .nil))))⟩
  · intro y hy n
    have : ∀ y ∈ xsB, (stS (stN 8)).names.lookup y = some .local := by decide +kernel
    exact .inl (this y hy)
  · intro s s₁ E env henv k O F
    have K : ∀ y, y ∈ (["a", "x", "lo", "hi", "key", "mid"] : List Str) → env.kindOf y = some .local := by
      subst henv; show ∀ y ∈ (["a", "x", "lo", "hi", "key", "mid"] : List Str), (stS (stN 8)).names.lookup y = some .local; decide +kernel
    have hk : env.scope.kind = .function := by subst henv; rfl
    have hg : env.globals = 3 := by subst henv; rfl
    have hb : env.builtins = builtinsNs := by subst henv; rfl
    have hl : env.kindOf "len" = some .globalImplicit := by subst henv; kernel_rfl
    refine ex_if (c := false) F ?_ fun s₂ k₂ F₂ => wpAny_execs_nil ?_
    · exact TV.cmp (a := .int 0) (b := .int 0) (EV.name F.loc hk rfl (.inl (K _ (by decide))) rfl) EV.int Cmp.ltI rfl
    refine ex_if (c := true) F₂ ?_ fun s₃ k₃ F₃ => ?_
    · exact TV.cmp (a := .none) (b := .none) (EV.name F₂.loc hk rfl (.inl (K _ (by decide))) rfl) EV.none (Cmp.isN fun v => by nofun) rfl
    rw [if_pos rfl]
    refine ex_assign (d := .int xs.length) O F₃ ?_ (.inl (K _ (by decide))) (by subst henv; kernel_rfl) fun s₄ F₄ st₄ => wpAny_execs_nil ?_
    · have t₃ := t.ext (k.ext.trans F₃.same.ext)
      refine EV.cast (EV.callB (ds := [.list (xs.map .int)]) (ev_blt t₃ hk hg hb hl (by kernel_rfl) (by kernel_rfl) (by kernel_rfl) (by kernel_rfl)) (.cons (EV.name F₃.loc hk rfl (.inl (K _ (by decide))) rfl) .nil rfl) (Fn.len (by simp; omega)) rfl fun _ => rfl) (by simp)
    refine ex_if (c := false) F₄ ?_ fun s₅ k₅ F₅ => ?_
    · exact TV.cast (TV.cmp (a := .val (.ref f)) (b := .none) (EV.name F₄.loc hk rfl (.inl (K _ (by decide))) rfl) EV.none Cmp.isNone rfl) rfl
    rw [if_neg Bool.false_ne_true]
    have e₅ : ((("hi" : Str), Dat.int xs.length) :: drop "hi" (xsB.zip [Dat.list (xs.map .int), Dat.int x, Dat.int 0, Dat.none, Dat.val (.ref f)])) = [(("hi" : Str), Dat.int xs.length), ("a", Dat.list (xs.map .int)), ("x", Dat.int x), ("lo", Dat.int 0), ("key", Dat.val (.ref f))] := by kernel_rfl
    have sub₀ : ∀ p ∈ ρB (xs.map .int) x (.val (.ref f)) (0, xs.length), p ∈ ((("hi" : Str), Dat.int xs.length) :: drop "hi" (xsB.zip [Dat.list (xs.map .int), Dat.int x, Dat.int 0, Dat.none, Dat.val (.ref f)])) := by
      rw [e₅]; intro p hp; simp only [ρB, List.mem_cons, List.not_mem_nil, or_false] at hp ⊢; rcases hp with rfl | rfl | rfl | rfl | rfl <;> simp
    refine ex_while (fun i : Nat × Nat => i.2 - i.1) (ρB (xs.map .int) x (.val (.ref f))) (fun i _ => ExB (fun i => decide (g (xs.getD i 0) < x)) xs.length (halve (fun i => decide (g (xs.getD i 0) < x)) xs.length 0 xs.length) i) (0, xs.length) (F₅.sub sub₀) ⟨Nat.le_refl _, _, Nat.le_refl _, rfl⟩ ?_
    intro i s₆ F₆ E₆ st₆
    refine ⟨decide (i.1 < i.2), ?_, fun hlt s₇ E' F₇ k₇ => ?_, fun hge s₇ F₇ st₇ k₇ => wpAny_execs_nil ?_⟩
    · exact TV.cast (TV.cmp (a := .int i.1) (b := .int i.2) (EV.name F₆.loc hk rfl (.inl (K _ (by decide))) rfl) (EV.name F₆.loc hk rfl (.inl (K _ (by decide))) rfl) Cmp.ltI rfl) (by simp)
    · have hlt := of_decide_eq_true hlt
      have hm : (i.1 + i.2) / 2 < xs.length := by have := E₆.1; omega
      refine ex_assign (d := .int ((i.1 + i.2) / 2 : Nat)) O F₇ ?_ (.inl (K _ (by decide))) (by subst henv; kernel_rfl) fun s₈ F₈ st₈ => ?_
      · exact EV.cast (EV.bin (EV.bin (a := .int i.1) (b := .int i.2) (EV.name F₇.loc hk rfl (.inl (K _ (by decide))) rfl) (EV.name F₇.loc hk rfl (.inl (K _ (by decide))) rfl) Bin.addI) EV.int (Bin.divI (by decide) (two_div _))) (by rw [mid_int])
      refine ex_if (c := decide (g (xs.getD ((i.1 + i.2) / 2) 0) < x)) F₈ ?_ fun s₉ k₉ F₉ => ?_
      · exact TV.cmp (a := .int (g (xs.getD ((i.1 + i.2) / 2) 0))) (b := .int x) (EV.callF (a := f) (fd := fdf) (ds := [.int (xs.getD ((i.1 + i.2) / 2) 0)]) (EV.name F₈.loc hk rfl (.inl (K _ (by decide))) rfl) (.cons (EV.sub (a := .list (xs.map .int)) (b := .int ((i.1 + i.2) / 2 : Nat)) (EV.name F₈.loc hk rfl (.inl (K _ (by decide))) rfl) (EV.name F₈.loc hk rfl (.inl (K _ (by decide))) rfl)
          (Itm.list (Int.natCast_nonneg _) (by omega) (item_at hm))) .nil rfl) ((hfn env _ (getD_memI hm)).mono (k.ext.trans F₈.same.ext)) (hf.ext (k.ext.trans F₈.same.ext)) rfl) (EV.name F₈.loc hk rfl (.inl (K _ (by decide))) rfl) Cmp.ltI rfl
      cases hp : decide (g (xs.getD ((i.1 + i.2) / 2) 0) < x) with
      | true =>
        rw [if_pos rfl]
        refine ex_assign (d := .int ((i.1 + i.2) / 2 + 1 : Nat)) O F₉ ?_ (.inl (K _ (by decide))) (by subst henv; kernel_rfl) fun s₁₀ F₁₀ st₁₀ => wpAny_execs_nil (wpAny_execs_nil ⟨rfl, ((i.1 + i.2) / 2 + 1, i.2), ?_, F₁₀.sub ?_, (E₆.turn hlt).1 hp, (st₈.trans (Stp.of k₉)).trans st₁₀⟩)
        · exact EV.cast (EV.bin (a := .int ((i.1 + i.2) / 2 : Nat)) (EV.name F₉.loc hk rfl (.inl (K _ (by decide))) rfl) EV.int Bin.addI) (by simp)
        · show i.2 - ((i.1 + i.2) / 2 + 1) < i.2 - i.1; omega
        · intro p hp; simp only [ρB, List.mem_cons, List.not_mem_nil, or_false] at hp; rcases hp with rfl | rfl | rfl | rfl | rfl <;> exact mem_of_look (by rfl)
      | false =>
        rw [if_neg Bool.false_ne_true]
        refine ex_assign (d := .int ((i.1 + i.2) / 2 : Nat)) O F₉ ?_ (.inl (K _ (by decide))) (by subst henv; kernel_rfl) fun s₁₀ F₁₀ st₁₀ => wpAny_execs_nil (wpAny_execs_nil ⟨rfl, (i.1, (i.1 + i.2) / 2), ?_, F₁₀.sub ?_, (E₆.turn hlt).2 hp, (st₈.trans (Stp.of k₉)).trans st₁₀⟩)
        · exact EV.name F₉.loc hk rfl (.inl (K _ (by decide))) rfl
        · show (i.1 + i.2) / 2 - i.1 < i.2 - i.1; omega
        · intro p hp; simp only [ρB, List.mem_cons, List.not_mem_nil, or_false] at hp; rcases hp with rfl | rfl | rfl | rfl | rfl <;> exact mem_of_look (by rfl)
    · have e := E₆.done (of_decide_eq_false hge)
      refine ex_return (d := .int (halve (fun i => decide (g (xs.getD i 0) < x)) xs.length 0 xs.length : Nat)) F₇ ?_ fun v s' r k₁ _ => ⟨r, k₁⟩
      rw [← e]
      exact EV.name F₇.loc hk rfl (.inl (K _ (by decide))) rfl
  · exact no_cells (ns := (stS (stN 8)).names) (by intro n; kernel_rfl)
theorem bisect_right_key_ok (t : TF w h) (hr : Rm A 4) {xs : List Int} {x : Int} {f : Addr} {fdf : FuncData} {g : Int → Int} (hf : IsDef h f fdf) (hfn : ∀ env, ∀ y ∈ xs, FnH pwT w (A.deeper env) X h (.ref f) [.int y] (.int (g y))) (hn : xs.length < 2 ^ 20) : FnA pwT w A X h (.ref 94) [.list (xs.map .int), .int x] ["key"] [.val (.ref f)] (.int (halve (fun i => !decide (x < g (xs.getD i 0))) xs.length 0 xs.length : Nat)) := by
  have hd : IsDef h 94 (fdR w.params) := t.fn (o := o_7_94 w.params) (by kernel_rfl) (by decide +kernel) rfl
  have hc : CodeS h (.ref 93) (Str.ofString "bisect_right") := t.code (o := o_7_93 w.params) (by kernel_rfl) (by decide +kernel) rfl ⟨_, _, rfl, rfl⟩
  refine (FnA.intro (xs := xsB) (ds' := [.list (xs.map .int), .int x, .int 0, .none, .val (.ref f)]) hd hr.room t.lim hc rfl rfl (by decide) ?_ rfl ?_ ?_ ?_ rfl rfl rfl)
  · intro s vs us k r ru
    obtain ⟨va, vx, rfl, ra, rx⟩ := r.two
    obtain ⟨vk, rfl, rk⟩ := ru.one
    exact ⟨_, t.bindRk k.ext va vx vk, .cons ra (.cons rx (.cons (.int _ _) (.cons .none (.cons rk .nil))))⟩
  · intro y hy n
    have : ∀ y ∈ xsB, (stS (stN 7)).names.lookup y = some .local := by decide +kernel
    exact .inl (this y hy)
  · intro s s₁ E env henv k O F
    have K : ∀ y, y ∈ (["a", "x", "lo", "hi", "key", "mid"] : List Str) → env.kindOf y = some .local := by
      subst henv; show ∀ y ∈ (["a", "x", "lo", "hi", "key", "mid"] : List Str), (stS (stN 7)).names.lookup y = some .local; decide +kernel
    have hk : env.scope.kind = .function := by subst henv; rfl
    have hg : env.globals = 3 := by subst henv; rfl
    have hb : env.builtins = builtinsNs := by subst henv; rfl
    have hl : env.kindOf "len" = some .globalImplicit := by subst henv; kernel_rfl
    refine ex_if (c := false) F ?_ fun s₂ k₂ F₂ => wpAny_execs_nil ?_
    · exact TV.cmp (a := .int 0) (b := .int 0) (EV.name F.loc hk rfl (.inl (K _ (by decide))) rfl) EV.int Cmp.ltI rfl
    refine ex_if (c := true) F₂ ?_ fun s₃ k₃ F₃ => ?_
    · exact TV.cmp (a := .none) (b := .none) (EV.name F₂.loc hk rfl (.inl (K _ (by decide))) rfl) EV.none (Cmp.isN fun v => by nofun) rfl
    rw [if_pos rfl]
    refine ex_assign (d := .int xs.length) O F₃ ?_ (.inl (K _ (by decide))) (by subst henv; kernel_rfl) fun s₄ F₄ st₄ => wpAny_execs_nil ?_
    · have t₃ := t.ext (k.ext.trans F₃.same.ext)
      refine EV.cast (EV.callB (ds := [.list (xs.map .int)]) (ev_blt t₃ hk hg hb hl (by kernel_rfl) (by kernel_rfl) (by kernel_rfl) (by kernel_rfl)) (.cons (EV.name F₃.loc hk rfl (.inl (K _ (by decide))) rfl) .nil rfl) (Fn.len (by simp; omega)) rfl fun _ => rfl) (by simp)
    refine ex_if (c := false) F₄ ?_ fun s₅ k₅ F₅ => ?_
    · exact TV.cast (TV.cmp (a := .val (.ref f)) (b := .none) (EV.name F₄.loc hk rfl (.inl (K _ (by decide))) rfl) EV.none Cmp.isNone rfl) rfl
    rw [if_neg Bool.false_ne_true]
    have e₅ : ((("hi" : Str), Dat.int xs.length) :: drop "hi" (xsB.zip [Dat.list (xs.map .int), Dat.int x, Dat.int 0, Dat.none, Dat.val (.ref f)])) = [(("hi" : Str), Dat.int xs.length), ("a", Dat.list (xs.map .int)), ("x", Dat.int x), ("lo", Dat.int 0), ("key", Dat.val (.ref f))] := by kernel_rfl
    have sub₀ : ∀ p ∈ ρB (xs.map .int) x (.val (.ref f)) (0, xs.length), p ∈ ((("hi" : Str), Dat.int xs.length) :: drop "hi" (xsB.zip [Dat.list (xs.map .int), Dat.int x, Dat.int 0, Dat.none, Dat.val (.ref f)])) := by
      rw [e₅]; intro p hp; simp only [ρB, List.mem_cons, List.not_mem_nil, or_false] at hp ⊢; rcases hp with rfl | rfl | rfl | rfl | rfl <;> simp
    refine ex_while (fun i : Nat × Nat => i.2 - i.1) (ρB (xs.map .int) x (.val (.ref f))) (fun i _ => ExB (fun i => !decide (x < g (xs.getD i 0))) xs.length (halve (fun i => !decide (x < g (xs.getD i 0))) xs.length 0 xs.length) i) (0, xs.length) (F₅.sub sub₀) ⟨Nat.le_refl _, _, Nat.le_refl _, rfl⟩ ?_
    intro i s₆ F₆ E₆ st₆
    refine ⟨decide (i.1 < i.2), ?_, fun hlt s₇ E' F₇ k₇ => ?_, fun hge s₇ F₇ st₇ k₇ => wpAny_execs_nil ?_⟩
    · exact TV.cast (TV.cmp (a := .int i.1) (b := .int i.2) (EV.name F₆.loc hk rfl (.inl (K _ (by decide))) rfl) (EV.name F₆.loc hk rfl (.inl (K _ (by decide))) rfl) Cmp.ltI rfl) (by simp)
    · have hlt := of_decide_eq_true hlt
      have hm : (i.1 + i.2) / 2 < xs.length := by have := E₆.1; omega
      refine ex_assign (d := .int ((i.1 + i.2) / 2 : Nat)) O F₇ ?_ (.inl (K _ (by decide))) (by subst henv; kernel_rfl) fun s₈ F₈ st₈ => ?_
      · exact EV.cast (EV.bin (EV.bin (a := .int i.1) (b := .int i.2) (EV.name F₇.loc hk rfl (.inl (K _ (by decide))) rfl) (EV.name F₇.loc hk rfl (.inl (K _ (by decide))) rfl) Bin.addI) EV.int (Bin.divI (by decide) (two_div _))) (by rw [mid_int])
      refine ex_if (c := decide (x < g (xs.getD ((i.1 + i.2) / 2) 0))) F₈ ?_ fun s₉ k₉ F₉ => ?_
      · exact TV.cmp (a := .int x) (b := .int (g (xs.getD ((i.1 + i.2) / 2) 0))) (EV.name F₈.loc hk rfl (.inl (K _ (by decide))) rfl) (EV.callF (a := f) (fd := fdf) (ds := [.int (xs.getD ((i.1 + i.2) / 2) 0)]) (EV.name F₈.loc hk rfl (.inl (K _ (by decide))) rfl) (.cons (EV.sub (a := .list (xs.map .int)) (b := .int ((i.1 + i.2) / 2 : Nat)) (EV.name F₈.loc hk rfl (.inl (K _ (by decide))) rfl) (EV.name F₈.loc hk rfl (.inl (K _ (by decide))) rfl)
          (Itm.list (Int.natCast_nonneg _) (by omega) (item_at hm))) .nil rfl) ((hfn env _ (getD_memI hm)).mono (k.ext.trans F₈.same.ext)) (hf.ext (k.ext.trans F₈.same.ext)) rfl) Cmp.ltI rfl
      cases hp : decide (x < g (xs.getD ((i.1 + i.2) / 2) 0)) with
      | true =>
        rw [if_pos rfl]
        refine ex_assign (d := .int ((i.1 + i.2) / 2 : Nat)) O F₉ ?_ (.inl (K _ (by decide))) (by subst henv; kernel_rfl) fun s₁₀ F₁₀ st₁₀ => wpAny_execs_nil (wpAny_execs_nil ⟨rfl, (i.1, (i.1 + i.2) / 2), ?_, F₁₀.sub ?_, (E₆.turn hlt).2 (by rw [hp]; rfl), (st₈.trans (Stp.of k₉)).trans st₁₀⟩)
        · exact EV.name F₉.loc hk rfl (.inl (K _ (by decide))) rfl
        · show (i.1 + i.2) / 2 - i.1 < i.2 - i.1; omega
        · intro p hp; simp only [ρB, List.mem_cons, List.not_mem_nil, or_false] at hp; rcases hp with rfl | rfl | rfl | rfl | rfl <;> exact mem_of_look (by rfl)
      | false =>
        rw [if_neg Bool.false_ne_true]
        refine ex_assign (d := .int ((i.1 + i.2) / 2 + 1 : Nat)) O F₉ ?_ (.inl (K _ (by decide))) (by subst henv; kernel_rfl) fun s₁₀ F₁₀ st₁₀ => wpAny_execs_nil (wpAny_execs_nil ⟨rfl, ((i.1 + i.2) / 2 + 1, i.2), ?_, F₁₀.sub ?_, (E₆.turn hlt).1 (by rw [hp]; rfl), (st₈.trans (Stp.of k₉)).trans st₁₀⟩)
        · exact EV.cast (EV.bin (a := .int ((i.1 + i.2) / 2 : Nat)) (EV.name F₉.loc hk rfl (.inl (K _ (by decide))) rfl) EV.int Bin.addI) (by simp)
        · show i.2 - ((i.1 + i.2) / 2 + 1) < i.2 - i.1; omega
        · intro p hp; simp only [ρB, List.mem_cons, List.not_mem_nil, or_false] at hp; rcases hp with rfl | rfl | rfl | rfl | rfl <;> exact mem_of_look (by rfl)
    · have e := E₆.done (of_decide_eq_false hge)
      refine ex_return (d := .int (halve (fun i => !decide (x < g (xs.getD i 0))) xs.length 0 xs.length : Nat)) F₇ ?_ fun v s' r k₁ _ => ⟨r, k₁⟩
      rw [← e]
      exact EV.name F₇.loc hk rfl (.inl (K _ (by decide))) rfl
  · exact no_cells (ns := (stS (stN 7)).names) (by intro n; kernel_rfl)
end Mine
end
end
section
open PySem PySem.W PyProof.Rows
set_option Elab.async false
set_option linter.unusedVariables false
set_option maxRecDepth 100000
noncomputable section
namespace Mine
variable {w : World} {A : Around} {X : Addr → Prop} {h : Heap} {env : Env}
theorem pickL_map {α β : Type} (f : α → β) (lo hi st : Option Int) (l : List α) : pickL lo hi st (l.map f) = (pickL lo hi st l).map f := by
  unfold pickL
  rw [List.length_map, List.map_filterMap]
  congr 1
  funext i
  simp
theorem pickL_len {α : Type} (l : List α) : (pickL none (some (-1)) none l).length ≤ l.length := by
  refine Nat.le_trans (List.length_filterMap_le _ _) ?_
  show (picks none (some (-1)) none l.length).length ≤ l.length
  simp only [picks, sliceBounds, sliceRange, Option.getD_none, List.length_map, List.length_range]
  simp only [show (1 : Int) > 0 by decide, show (-1 : Int) < 0 by decide, if_true, Int.ediv_one]
  split <;> omega
theorem range_small {n : Nat} (h : n < 2 ^ 30) : Builtin.Range.small 0 (n : Int) 1 = true := small_one (by decide) (by decide) (by omega) (by omega)
noncomputable def jn (x : Str) (k : Nat) : Bool := decide (Txt.slice x (some (k : Int)) (some ((k : Int) + 1)) = Txt.slice x (some ((k : Int) - 1)) (some (k : Int)))
noncomputable def rowsF (x : Str) : Nat → List Int
  | 0 => []
  | k + 1 => if jn x k then pickL none (some (-1)) none (rowsF x k) ++ [(rowsF x k).getD ((rowsF x k).length - 1) 0 + 1] else rowsF x k ++ [1]
theorem rowsF_pos {x : Str} (h0 : jn x 0 = false) : ∀ k, 0 < (rowsF x (k + 1)).length
  | k => by unfold rowsF; split <;> simp
theorem rowsF_len {x : Str} : ∀ k, (rowsF x k).length ≤ k
  | 0 => Nat.le_refl _
  | k + 1 => by
    have := rowsF_len (x := x) k
    unfold rowsF
    split
    · rename_i hj
      have h2 := pickL_len (rowsF x k)
      simp only [List.length_append, List.length_singleton]; omega
    · simp only [List.length_append, List.length_singleton]; omega
theorem law_rows_ok (t : TF w h) (hr : Rm A 6) {x : Str} (h0 : jn x 0 = false) (hn : x.length < 2 ^ 20) : FnH pwT w A X h (.ref 183) [.str x] (.list ((rowsF x x.length).map .int)) := by
  have hd : IsDef h 183 _ := t.fn (o := o_13_183 w.params) (by kernel_rfl) (by decide +kernel) rfl
  have hc : CodeS h (.ref 182) (Str.ofString "_law_rows") := t.code (o := o_13_182 w.params) (by kernel_rfl) (by decide +kernel) rfl ⟨_, _, rfl, rfl⟩
  refine FnH.intro (xs := ["word"]) hd hr.room t.lim hc rfl rfl (by decide) ?_ rfl ?_ ?_ (no_cells (ns := (stS (stN 13)).names) (by intro n; kernel_rfl)) rfl rfl rfl
  · intro s vs _ hl
    match vs, hl with
    | [v], _ => kernel_rfl
  · intro y hy n
    rw [List.mem_singleton.mp hy]
    exact .inl (by kernel_rfl)
  · intro s s₁ E env henv k O F
    have K : ∀ y, y ∈ (["word", "rows", "k"] : List Str) → env.kindOf y = some .local := by
      subst henv; show ∀ y ∈ (["word", "rows", "k"] : List Str), (stS (stN 13)).names.lookup y = some .local; decide +kernel
    have hk : env.scope.kind = .function := by subst henv; rfl
    have hg : env.globals = 3 := by subst henv; rfl
    have hb : env.builtins = builtinsNs := by subst henv; rfl
    have hl : env.kindOf "len" = some .globalImplicit := by subst henv; kernel_rfl
    have hrg : env.kindOf "range" = some .globalImplicit := by subst henv; kernel_rfl
    refine ex_assign (d := .list []) O F (EV.list .nil (by decide)) (.inl (K _ (by decide))) (by subst henv; kernel_rfl) fun s₂ F₂ st₂ => ?_
    have t₂ := t.ext (k.ext.trans F₂.same.ext)
    refine ex_for (ds := (List.range ((x.length : Int)).toNat).map fun i : Nat => Dat.int (i : Int)) (fun i => [("rows", .list ((rowsF x i).map .int)), ("word", .str x)]) (fun _ _ => True) (fun _ z => z.elim) O (F₂.sub ?_) (.inl (K _ (by decide))) ?_ trivial (fun _ _ _ _ _ _ => trivial) ?_ ?_ (by subst henv; exact fun _ => rfl)
    · intro p hp; simp only [List.mem_cons, List.not_mem_nil, or_false] at hp; rcases hp with rfl | rfl <;> exact mem_of_look (by rfl)
    · refine SrcW.range1 (by exact hr.handled) (ev_blt t₂ hk hg hb hrg (by kernel_rfl) (by kernel_rfl) (by kernel_rfl) (by kernel_rfl)) ?_ ?_ rfl
      · exact EV.callB (ds := [.str x]) (ev_blt t₂ hk hg hb hl (by kernel_rfl) (by kernel_rfl) (by kernel_rfl) (by kernel_rfl)) (.cons (EV.name F₂.loc hk rfl (.inl (K _ (by decide))) rfl) .nil rfl) (Fn.lenS (by omega)) rfl fun _ => rfl
      · exact range_small (by omega)
    · intro i d s₃ E' hd F₃ _
      have hi : i < x.length ∧ d = .int (i : Int) := by
        have := List.getElem?_eq_some_iff.mp hd
        obtain ⟨h1, h2⟩ := this
        simp at h1 h2
        exact ⟨h1, h2.symm⟩
      obtain ⟨hi, rfl⟩ := hi
      refine ex_if (c := jn x i) F₃ ?_ fun s₄ k₄ F₄ => ?_
      · refine TV.cmp (a := .str (Txt.slice x (some (i : Int)) (some ((i : Int) + 1)))) (b := .str (Txt.slice x (some ((i : Int) - 1)) (some (i : Int)))) ?_ ?_ Cmp.eqS rfl
        · exact slice_str (EV.name F₃.loc hk rfl (.inl (K _ (by decide))) rfl) (.some (EV.name F₃.loc hk rfl (.inl (K _ (by decide))) rfl)) (.some (EV.bin (EV.name F₃.loc hk rfl (.inl (K _ (by decide))) rfl) EV.int Bin.addI)) (by have : sizeLine = 16777216 := rfl; omega)
        · exact slice_str (EV.name F₃.loc hk rfl (.inl (K _ (by decide))) rfl) (.some (EV.bin (EV.name F₃.loc hk rfl (.inl (K _ (by decide))) rfl) EV.int Bin.subI)) (.some (EV.name F₃.loc hk rfl (.inl (K _ (by decide))) rfl)) (by have : sizeLine = 16777216 := rfl; omega)
      cases hj : jn x i with
      | true =>
        rw [if_pos rfl]
        have hp : 0 < i := by
          rcases Nat.eq_zero_or_pos i with rfl | hp
          · rw [h0] at hj; cases hj
          · exact hp
        have hl0 : 0 < (rowsF x i).length := by
          obtain ⟨j, rfl⟩ : ∃ j, i = j + 1 := ⟨i - 1, by omega⟩
          exact rowsF_pos h0 j
        have hli := rowsF_len (x := x) i
        have szl : sizeLine = 16777216 := rfl
        refine ex_assign (d := .list ((rowsF x (i + 1)).map .int)) O F₄ ?_ (.inl (K _ (by decide))) (by subst henv; kernel_rfl) fun s₅ F₅ st₅ => wpAny_execs_nil (wpAny_execs_nil ⟨(Stp.of k₄).trans st₅, F₅.sub ?_, trivial⟩)
        · refine EV.cast (EV.bin (a := .list (pickL none (some (-1)) none ((rowsF x i).map .int))) (b := .list [.int ((rowsF x i).getD ((rowsF x i).length - 1) 0 + 1)]) (slice_list (EV.name F₄.loc hk rfl (.inl (K _ (by decide))) rfl) .none (.some (EV.neg EV.int)) .none (by decide) (by simp; omega)) (.list (.cons (EV.bin (EV.sub (a := .list ((rowsF x i).map .int)) (b := .int (-1)) (EV.name F₄.loc hk rfl (.inl (K _ (by decide))) rfl) (EV.neg EV.int) (Itm.listNeg (by decide) (by simp; omega) (by decide) ?_)) EV.int Bin.addI) .nil rfl) (by simp [szl])) (Bin.addL ?_)) ?_
          · have e : ((-1 : Int) + ((rowsF x i).map Dat.int).length).toNat = (rowsF x i).length - 1 := by simp; omega
            rw [e]
            have hlt : (rowsF x i).length - 1 < (rowsF x i).length := by omega
            simp [List.getD, List.getElem?_eq_getElem hlt]
          · have := pickL_len (rowsF x i)
            rw [pickL_map]; simp only [List.length_map, List.length_singleton]; omega
          · have e : rowsF x (i + 1) = pickL none (some (-1)) none (rowsF x i) ++ [(rowsF x i).getD ((rowsF x i).length - 1) 0 + 1] := by
              show (if jn x i then _ else _) = _
              rw [hj]; rfl
            rw [e, pickL_map]; simp
        · intro p hp; simp only [List.mem_cons, List.not_mem_nil, or_false] at hp; rcases hp with rfl | rfl <;> exact mem_of_look (by rfl)
      | false =>
        rw [if_neg Bool.false_ne_true]
        have hli := rowsF_len (x := x) i
        have szl : sizeLine = 16777216 := rfl
        refine ex_assign (d := .list ((rowsF x (i + 1)).map .int)) O F₄ ?_ (.inl (K _ (by decide))) (by subst henv; kernel_rfl) fun s₅ F₅ st₅ => wpAny_execs_nil (wpAny_execs_nil ⟨(Stp.of k₄).trans st₅, F₅.sub ?_, trivial⟩)
        · refine EV.cast (EV.bin (a := .list ((rowsF x i).map .int)) (b := .list [.int 1]) (EV.name F₄.loc hk rfl (.inl (K _ (by decide))) rfl) (.list (.cons EV.int .nil rfl) (by simp [szl])) (Bin.addL ?_)) ?_
          · simp only [List.length_map, List.length_singleton]; omega
          · have e : rowsF x (i + 1) = rowsF x i ++ [1] := by
              show (if jn x i then _ else _) = _
              rw [hj]; rfl
            rw [e]; simp
        · intro p hp; simp only [List.mem_cons, List.not_mem_nil, or_false] at hp; rcases hp with rfl | rfl <;> exact mem_of_look (by rfl)
    · intro s₃ F₃ _ _
      refine ex_return (d := .list ((rowsF x x.length).map .int)) F₃ ?_ fun v s' r k₁ _ => ⟨r, k₁⟩
      have e : ((List.range ((x.length : Int)).toNat).map fun i : Nat => Dat.int (i : Int)).length = x.length := by simp
      rw [e] at F₃
      exact EV.name F₃.loc hk rfl (.inl (K _ (by decide))) rfl
end Mine
end
end
section
open PySem PySem.W PyProof.Rows
set_option Elab.async false
set_option linter.unusedVariables false
set_option maxRecDepth 100000
noncomputable section
namespace Mine
variable {w : World} {A : Around} {X : Addr → Prop} {h : Heap} {env : Env}
theorem pickL_hi {α : Type} (j : Int) (l : List α) : (pickL none (some j) none l).length ≤ l.length := by
  refine Nat.le_trans (List.length_filterMap_le _ _) ?_
  show (picks none (some j) none l.length).length ≤ l.length
  simp only [picks, sliceBounds, sliceRange, Option.getD_none, List.length_map, List.length_range]
  simp only [show (1 : Int) > 0 by decide, if_true, Int.ediv_one]
  split <;> split <;> omega
noncomputable def minL : List Int → Int
  | [] => 0
  | [a] => a
  | a :: r => min a (minL r)
theorem minL_is : ∀ {l : List Int}, 0 < l.length → IsMin l (minL l)
  | [a], _ => ⟨List.mem_singleton.mpr rfl, fun x hx => by rw [List.mem_singleton.mp hx]; exact Int.le_refl _⟩
  | a :: b :: r, _ => by
    obtain ⟨h1, h2⟩ := minL_is (l := b :: r) (by simp)
    show IsMin (a :: b :: r) (min a (minL (b :: r)))
    refine ⟨?_, fun x hx => ?_⟩
    · rcases Int.le_total a (minL (b :: r)) with h | h
      · rw [Int.min_eq_left h]; exact List.mem_cons_self
      · rw [Int.min_eq_right h]; exact List.mem_cons_of_mem _ h1
    · rcases List.mem_cons.mp hx with rfl | hx
      · exact Int.min_le_left _ _
      · exact Int.le_trans (Int.min_le_right _ _) (h2 x hx)
theorem rep99 (m : Nat) : (List.replicate m [Dat.int 99]).flatten = (List.replicate m (99 : Int)).map Dat.int := by
  rw [List.flatten_replicate_singleton, List.map_replicate]
noncomputable def chF (x : Str) (n : Nat) : Nat → List Int
  | 0 => 0 :: List.replicate (n - 1) 99
  | k + 1 => if jn x k then (minL (chF x n k) + 1) :: pickL none (some ((n : Int) - 1)) none (chF x n k) else (minL (chF x n k) + 1) :: minL (chF x n k) :: List.replicate (n - 2) 99
noncomputable def piF (x : Str) (n : Nat) : Nat → List Int
  | 0 => 0 :: List.replicate (n - 2) 99
  | k + 1 => if jn x k then (minL (piF x n k) + 1) :: pickL none (some ((n : Int) - 2)) none (piF x n k) else minL (piF x n k) :: List.replicate (n - 2) 99
theorem chF_len {x : Str} {n : Nat} : ∀ k, 0 < (chF x n k).length ∧ (chF x n k).length ≤ n + k + 2
  | 0 => by simp [chF]; omega
  | k + 1 => by
    have := chF_len (x := x) (n := n) k
    have h2 := pickL_hi ((n : Int) - 1) (chF x n k)
    unfold chF
    split <;> simp <;> omega
theorem piF_len {x : Str} {n : Nat} : ∀ k, 0 < (piF x n k).length ∧ (piF x n k).length ≤ n + k + 2
  | 0 => by simp [piF]; omega
  | k + 1 => by
    have := piF_len (x := x) (n := n) k
    have h2 := pickL_hi ((n : Int) - 2) (piF x n k)
    unfold piF
    split <;> simp <;> omega
end Mine
end
end
section
open PySem PySem.W PyProof.Rows
set_option Elab.async false
set_option linter.unusedVariables false
set_option maxRecDepth 100000
noncomputable section
namespace Mine
variable {w : World} {A : Around} {X : Addr → Prop} {h : Heap} {env : Env}
theorem law_changed_ok (t : TF w h) (hr : Rm A 6) {x : Str} {n : Nat} (h2 : 2 ≤ n) (hn2 : n < 2 ^ 10) (hn : x.length < 2 ^ 20) : FnH pwT w A X h (.ref 190) [.str x, .int n] (.int (minL (chF x n x.length))) := by
  have hd : IsDef h 190 _ := t.fn (o := o_14_190 w.params) (by kernel_rfl) (by decide +kernel) rfl
  have hc : CodeS h (.ref 189) (Str.ofString "_law_changed") := t.code (o := o_14_189 w.params) (by kernel_rfl) (by decide +kernel) rfl ⟨_, _, rfl, rfl⟩
  have szl : sizeLine = 16777216 := rfl
  refine FnH.intro (xs := ["word", "size"]) hd hr.room t.lim hc rfl rfl (by decide) ?_ rfl ?_ ?_ (no_cells (ns := (stS (stN 14)).names) (by intro n; kernel_rfl)) rfl rfl rfl
  · intro s vs _ hl
    match vs, hl with
    | [v, u], _ => kernel_rfl
  · intro y hy n
    have : ∀ y ∈ (["word", "size"] : List Str), (stS (stN 14)).names.lookup y = some .local := by decide +kernel
    exact .inl (this y hy)
  · intro s s₁ E env henv k O F
    have K : ∀ y, y ∈ (["word", "size", "k", "costs", "least"] : List Str) → env.kindOf y = some .local := by
      subst henv; show ∀ y ∈ (["word", "size", "k", "costs", "least"] : List Str), (stS (stN 14)).names.lookup y = some .local; decide +kernel
    have hk : env.scope.kind = .function := by subst henv; rfl
    have hg : env.globals = 3 := by subst henv; rfl
    have hb : env.builtins = builtinsNs := by subst henv; rfl
    have hl : env.kindOf "len" = some .globalImplicit := by subst henv; kernel_rfl
    have hrg : env.kindOf "range" = some .globalImplicit := by subst henv; kernel_rfl
    have hmi : env.kindOf "min" = some .globalImplicit := by subst henv; kernel_rfl
    refine ex_assign (d := .list ((chF x n 0).map .int)) O F ?_ (.inl (K _ (by decide))) (by subst henv; kernel_rfl) fun s₂ F₂ st₂ => ?_
    · refine EV.cast (EV.bin (a := .list [.int 0]) (b := .list (List.replicate ((n : Int) - 1).toNat [.int 99]).flatten) (.list (.cons EV.int .nil rfl) (by simp [szl])) (EV.bin (a := .list [.int 99]) (b := .int ((n : Int) - 1)) (.list (.cons EV.int .nil rfl) (by simp [szl])) (EV.bin (EV.name F.loc hk rfl (.inl (K _ (by decide))) rfl) EV.int Bin.subI) (Bin.mulL (by omega) (by omega) (by simp; omega))) (Bin.addL (by rw [rep99]; simp; omega))) ?_
      rw [rep99, show ((n : Int) - 1).toNat = n - 1 by omega]; simp [chF]
    have t₂ := t.ext (k.ext.trans F₂.same.ext)
    refine ex_for (ds := (List.range ((x.length : Int)).toNat).map fun i : Nat => Dat.int (i : Int)) (fun i => [("costs", .list ((chF x n i).map .int)), ("word", .str x), ("size", .int n)]) (fun _ _ => True) (fun _ z => z.elim) O (F₂.sub ?_) (.inl (K _ (by decide))) ?_ trivial (fun _ _ _ _ _ _ => trivial) ?_ ?_ (by subst henv; exact fun _ => rfl)
    · intro p hp; simp only [List.mem_cons, List.not_mem_nil, or_false] at hp; rcases hp with rfl | rfl | rfl <;> exact mem_of_look (by rfl)
    · refine SrcW.range1 (by exact hr.handled) (ev_blt t₂ hk hg hb hrg (by kernel_rfl) (by kernel_rfl) (by kernel_rfl) (by kernel_rfl)) ?_ (range_small (by omega)) rfl
      exact EV.callB (ds := [.str x]) (ev_blt t₂ hk hg hb hl (by kernel_rfl) (by kernel_rfl) (by kernel_rfl) (by kernel_rfl)) (.cons (EV.name F₂.loc hk rfl (.inl (K _ (by decide))) rfl) .nil rfl) (Fn.lenS (by omega)) rfl fun _ => rfl
    · intro i d s₃ E' hd F₃ _
      have hi : i < x.length ∧ d = .int (i : Int) := by
        obtain ⟨h1, h2⟩ := List.getElem?_eq_some_iff.mp hd
        simp at h1 h2
        exact ⟨h1, h2.symm⟩
      obtain ⟨hi, rfl⟩ := hi
      have hlc := chF_len (x := x) (n := n) i
      have t₃ := t.ext (k.ext.trans F₃.same.ext)
      refine ex_assign (d := .int (minL (chF x n i))) O F₃ ?_ (.inl (K _ (by decide))) (by subst henv; kernel_rfl) fun s₅ F₅ st₅ => ?_
      · exact EV.callB (ds := [.list ((chF x n i).map .int)]) (ev_blt t₃ hk hg hb hmi (by kernel_rfl) (by kernel_rfl) (by kernel_rfl) (by kernel_rfl)) (.cons (EV.name F₃.loc hk rfl (.inl (K _ (by decide))) rfl) .nil rfl) (Fn.min hr.handled (minL_is hlc.1)) rfl fun _ => rfl
      refine ex_if (c := jn x i) F₅ ?_ fun s₄ k₄ F₄ => ?_
      · refine TV.cmp (a := .str (Txt.slice x (some (i : Int)) (some ((i : Int) + 1)))) (b := .str (Txt.slice x (some ((i : Int) - 1)) (some (i : Int)))) ?_ ?_ Cmp.eqS rfl
        · exact slice_str (EV.name F₅.loc hk rfl (.inl (K _ (by decide))) rfl) (.some (EV.name F₅.loc hk rfl (.inl (K _ (by decide))) rfl)) (.some (EV.bin (EV.name F₅.loc hk rfl (.inl (K _ (by decide))) rfl) EV.int Bin.addI)) (by omega)
        · exact slice_str (EV.name F₅.loc hk rfl (.inl (K _ (by decide))) rfl) (.some (EV.bin (EV.name F₅.loc hk rfl (.inl (K _ (by decide))) rfl) EV.int Bin.subI)) (.some (EV.name F₅.loc hk rfl (.inl (K _ (by decide))) rfl)) (by omega)
      cases hj : jn x i with
      | true =>
        rw [if_pos rfl]
        have e : chF x n (i + 1) = (minL (chF x n i) + 1) :: pickL none (some ((n : Int) - 1)) none (chF x n i) := by
          show (if jn x i then _ else _) = _
          rw [hj]; rfl
        have hp := pickL_hi ((n : Int) - 1) (chF x n i)
        refine ex_assign (d := .list ((chF x n (i + 1)).map .int)) O F₄ ?_ (.inl (K _ (by decide))) (by subst henv; kernel_rfl) fun s₆ F₆ st₆ => wpAny_execs_nil (wpAny_execs_nil ⟨(st₅.trans (Stp.of k₄)).trans st₆, F₆.sub ?_, trivial⟩)
        · refine EV.cast (EV.bin (a := .list [.int (minL (chF x n i) + 1)]) (b := .list (pickL none (some ((n : Int) - 1)) none ((chF x n i).map .int))) (.list (.cons (EV.bin (EV.name F₄.loc hk rfl (.inl (K _ (by decide))) rfl) EV.int Bin.addI) .nil rfl) (by simp [szl])) (slice_list (EV.name F₄.loc hk rfl (.inl (K _ (by decide))) rfl) .none (.some (EV.bin (EV.name F₄.loc hk rfl (.inl (K _ (by decide))) rfl) EV.int Bin.subI)) .none (by decide) (by simp; omega)) (Bin.addL ?_)) ?_
          · rw [pickL_map]; simp only [List.length_map, List.length_singleton]; omega
          · rw [e, pickL_map]; simp
        · intro p hp; simp only [List.mem_cons, List.not_mem_nil, or_false] at hp; rcases hp with rfl | rfl | rfl <;> exact mem_of_look (by rfl)
      | false =>
        rw [if_neg Bool.false_ne_true]
        have e : chF x n (i + 1) = (minL (chF x n i) + 1) :: minL (chF x n i) :: List.replicate (n - 2) 99 := by
          show (if jn x i then _ else _) = _
          rw [hj]; rfl
        refine ex_assign (d := .list ((chF x n (i + 1)).map .int)) O F₄ ?_ (.inl (K _ (by decide))) (by subst henv; kernel_rfl) fun s₆ F₆ st₆ => wpAny_execs_nil (wpAny_execs_nil ⟨(st₅.trans (Stp.of k₄)).trans st₆, F₆.sub ?_, trivial⟩)
        · refine EV.cast (EV.bin (a := .list [.int (minL (chF x n i) + 1), .int (minL (chF x n i))]) (b := .list (List.replicate ((n : Int) - 2).toNat [.int 99]).flatten) (.list (.cons (EV.bin (EV.name F₄.loc hk rfl (.inl (K _ (by decide))) rfl) EV.int Bin.addI) (.cons (EV.name F₄.loc hk rfl (.inl (K _ (by decide))) rfl) .nil rfl) rfl) (by simp [szl])) (EV.bin (a := .list [.int 99]) (b := .int ((n : Int) - 2)) (.list (.cons EV.int .nil rfl) (by simp [szl])) (EV.bin (EV.name F₄.loc hk rfl (.inl (K _ (by decide))) rfl) EV.int Bin.subI) (Bin.mulL (by omega) (by omega) (by simp; omega))) (Bin.addL (by rw [rep99]; simp; omega))) ?_
          rw [e, rep99, show ((n : Int) - 2).toNat = n - 2 by omega]; simp
        · intro p hp; simp only [List.mem_cons, List.not_mem_nil, or_false] at hp; rcases hp with rfl | rfl | rfl <;> exact mem_of_look (by rfl)
    · intro s₃ F₃ _ _
      have e : ((List.range ((x.length : Int)).toNat).map fun i : Nat => Dat.int (i : Int)).length = x.length := by simp
      rw [e] at F₃
      have t₃ := t.ext (k.ext.trans F₃.same.ext)
      refine ex_return (d := .int (minL (chF x n x.length))) F₃ ?_ fun v s' r k₁ _ => ⟨r, k₁⟩
      exact EV.callB (ds := [.list ((chF x n x.length).map .int)]) (ev_blt t₃ hk hg hb hmi (by kernel_rfl) (by kernel_rfl) (by kernel_rfl) (by kernel_rfl)) (.cons (EV.name F₃.loc hk rfl (.inl (K _ (by decide))) rfl) .nil rfl) (Fn.min hr.handled (minL_is (chF_len _).1)) rfl fun _ => rfl
end Mine
end
end
section
open PySem PySem.W PyProof.Rows
set_option Elab.async false
set_option linter.unusedVariables false
set_option maxRecDepth 100000
noncomputable section
namespace Mine
variable {w : World} {A : Around} {X : Addr → Prop} {h : Heap} {env : Env}
theorem law_put_in_ok (t : TF w h) (hr : Rm A 6) {x : Str} {n : Nat} (h2 : 2 ≤ n) (hn2 : n < 2 ^ 10) (hn : x.length < 2 ^ 20) : FnH pwT w A X h (.ref 197) [.str x, .int n] (.int (minL (piF x n x.length))) := by
  have hd : IsDef h 197 _ := t.fn (o := o_15_197 w.params) (by kernel_rfl) (by decide +kernel) rfl
  have hc : CodeS h (.ref 196) (Str.ofString "_law_put_in") := t.code (o := o_15_196 w.params) (by kernel_rfl) (by decide +kernel) rfl ⟨_, _, rfl, rfl⟩
  have szl : sizeLine = 16777216 := rfl
  refine FnH.intro (xs := ["word", "size"]) hd hr.room t.lim hc rfl rfl (by decide) ?_ rfl ?_ ?_ (no_cells (ns := (stS (stN 15)).names) (by intro n; kernel_rfl)) rfl rfl rfl
  · intro s vs _ hl
    match vs, hl with
    | [v, u], _ => kernel_rfl
  · intro y hy n
    have : ∀ y ∈ (["word", "size"] : List Str), (stS (stN 15)).names.lookup y = some .local := by decide +kernel
    exact .inl (this y hy)
  · intro s s₁ E env henv k O F
    have K : ∀ y, y ∈ (["word", "size", "k", "costs", "least"] : List Str) → env.kindOf y = some .local := by
      subst henv; show ∀ y ∈ (["word", "size", "k", "costs", "least"] : List Str), (stS (stN 15)).names.lookup y = some .local; decide +kernel
    have hk : env.scope.kind = .function := by subst henv; rfl
    have hg : env.globals = 3 := by subst henv; rfl
    have hb : env.builtins = builtinsNs := by subst henv; rfl
    have hl : env.kindOf "len" = some .globalImplicit := by subst henv; kernel_rfl
    have hrg : env.kindOf "range" = some .globalImplicit := by subst henv; kernel_rfl
    have hmi : env.kindOf "min" = some .globalImplicit := by subst henv; kernel_rfl
    refine ex_assign (d := .list ((piF x n 0).map .int)) O F ?_ (.inl (K _ (by decide))) (by subst henv; kernel_rfl) fun s₂ F₂ st₂ => ?_
    · refine EV.cast (EV.bin (a := .list [.int 0]) (b := .list (List.replicate ((n : Int) - 2).toNat [.int 99]).flatten) (.list (.cons EV.int .nil rfl) (by simp [szl])) (EV.bin (a := .list [.int 99]) (b := .int ((n : Int) - 2)) (.list (.cons EV.int .nil rfl) (by simp [szl])) (EV.bin (EV.name F.loc hk rfl (.inl (K _ (by decide))) rfl) EV.int Bin.subI) (Bin.mulL (by omega) (by omega) (by simp; omega))) (Bin.addL (by rw [rep99]; simp; omega))) ?_
      rw [rep99, show ((n : Int) - 2).toNat = n - 2 by omega]; simp [piF]
    have t₂ := t.ext (k.ext.trans F₂.same.ext)
    refine ex_for (ds := (List.range ((x.length : Int)).toNat).map fun i : Nat => Dat.int (i : Int)) (fun i => [("costs", .list ((piF x n i).map .int)), ("word", .str x), ("size", .int n)]) (fun _ _ => True) (fun _ z => z.elim) O (F₂.sub ?_) (.inl (K _ (by decide))) ?_ trivial (fun _ _ _ _ _ _ => trivial) ?_ ?_ (by subst henv; exact fun _ => rfl)
    · intro p hp; simp only [List.mem_cons, List.not_mem_nil, or_false] at hp; rcases hp with rfl | rfl | rfl <;> exact mem_of_look (by rfl)
    · refine SrcW.range1 (by exact hr.handled) (ev_blt t₂ hk hg hb hrg (by kernel_rfl) (by kernel_rfl) (by kernel_rfl) (by kernel_rfl)) ?_ (range_small (by omega)) rfl
      exact EV.callB (ds := [.str x]) (ev_blt t₂ hk hg hb hl (by kernel_rfl) (by kernel_rfl) (by kernel_rfl) (by kernel_rfl)) (.cons (EV.name F₂.loc hk rfl (.inl (K _ (by decide))) rfl) .nil rfl) (Fn.lenS (by omega)) rfl fun _ => rfl
    · intro i d s₃ E' hd F₃ _
      have hi : i < x.length ∧ d = .int (i : Int) := by
        obtain ⟨h1, h2⟩ := List.getElem?_eq_some_iff.mp hd
        simp at h1 h2
        exact ⟨h1, h2.symm⟩
      obtain ⟨hi, rfl⟩ := hi
      have hlc := piF_len (x := x) (n := n) i
      have t₃ := t.ext (k.ext.trans F₃.same.ext)
      refine ex_assign (d := .int (minL (piF x n i))) O F₃ ?_ (.inl (K _ (by decide))) (by subst henv; kernel_rfl) fun s₅ F₅ st₅ => ?_
      · exact EV.callB (ds := [.list ((piF x n i).map .int)]) (ev_blt t₃ hk hg hb hmi (by kernel_rfl) (by kernel_rfl) (by kernel_rfl) (by kernel_rfl)) (.cons (EV.name F₃.loc hk rfl (.inl (K _ (by decide))) rfl) .nil rfl) (Fn.min hr.handled (minL_is hlc.1)) rfl fun _ => rfl
      refine ex_if (c := jn x i) F₅ ?_ fun s₄ k₄ F₄ => ?_
      · refine TV.cmp (a := .str (Txt.slice x (some (i : Int)) (some ((i : Int) + 1)))) (b := .str (Txt.slice x (some ((i : Int) - 1)) (some (i : Int)))) ?_ ?_ Cmp.eqS rfl
        · exact slice_str (EV.name F₅.loc hk rfl (.inl (K _ (by decide))) rfl) (.some (EV.name F₅.loc hk rfl (.inl (K _ (by decide))) rfl)) (.some (EV.bin (EV.name F₅.loc hk rfl (.inl (K _ (by decide))) rfl) EV.int Bin.addI)) (by omega)
        · exact slice_str (EV.name F₅.loc hk rfl (.inl (K _ (by decide))) rfl) (.some (EV.bin (EV.name F₅.loc hk rfl (.inl (K _ (by decide))) rfl) EV.int Bin.subI)) (.some (EV.name F₅.loc hk rfl (.inl (K _ (by decide))) rfl)) (by omega)
      cases hj : jn x i with
      | true =>
        rw [if_pos rfl]
        have e : piF x n (i + 1) = (minL (piF x n i) + 1) :: pickL none (some ((n : Int) - 2)) none (piF x n i) := by
          show (if jn x i then _ else _) = _
          rw [hj]; rfl
        have hp := pickL_hi ((n : Int) - 2) (piF x n i)
        refine ex_assign (d := .list ((piF x n (i + 1)).map .int)) O F₄ ?_ (.inl (K _ (by decide))) (by subst henv; kernel_rfl) fun s₆ F₆ st₆ => wpAny_execs_nil (wpAny_execs_nil ⟨(st₅.trans (Stp.of k₄)).trans st₆, F₆.sub ?_, trivial⟩)
        · refine EV.cast (EV.bin (a := .list [.int (minL (piF x n i) + 1)]) (b := .list (pickL none (some ((n : Int) - 2)) none ((piF x n i).map .int))) (.list (.cons (EV.bin (EV.name F₄.loc hk rfl (.inl (K _ (by decide))) rfl) EV.int Bin.addI) .nil rfl) (by simp [szl])) (slice_list (EV.name F₄.loc hk rfl (.inl (K _ (by decide))) rfl) .none (.some (EV.bin (EV.name F₄.loc hk rfl (.inl (K _ (by decide))) rfl) EV.int Bin.subI)) .none (by decide) (by simp; omega)) (Bin.addL ?_)) ?_
          · rw [pickL_map]; simp only [List.length_map, List.length_singleton]; omega
          · rw [e, pickL_map]; simp
        · intro p hp; simp only [List.mem_cons, List.not_mem_nil, or_false] at hp; rcases hp with rfl | rfl | rfl <;> exact mem_of_look (by rfl)
      | false =>
        rw [if_neg Bool.false_ne_true]
        have e : piF x n (i + 1) = minL (piF x n i) :: List.replicate (n - 2) 99 := by
          show (if jn x i then _ else _) = _
          rw [hj]; rfl
        refine ex_assign (d := .list ((piF x n (i + 1)).map .int)) O F₄ ?_ (.inl (K _ (by decide))) (by subst henv; kernel_rfl) fun s₆ F₆ st₆ => wpAny_execs_nil (wpAny_execs_nil ⟨(st₅.trans (Stp.of k₄)).trans st₆, F₆.sub ?_, trivial⟩)
        · refine EV.cast (EV.bin (a := .list [.int (minL (piF x n i))]) (b := .list (List.replicate ((n : Int) - 2).toNat [.int 99]).flatten) (.list (.cons (EV.name F₄.loc hk rfl (.inl (K _ (by decide))) rfl) .nil rfl) (by simp [szl])) (EV.bin (a := .list [.int 99]) (b := .int ((n : Int) - 2)) (.list (.cons EV.int .nil rfl) (by simp [szl])) (EV.bin (EV.name F₄.loc hk rfl (.inl (K _ (by decide))) rfl) EV.int Bin.subI) (Bin.mulL (by omega) (by omega) (by simp; omega))) (Bin.addL (by rw [rep99]; simp; omega))) ?_
          rw [e, rep99, show ((n : Int) - 2).toNat = n - 2 by omega]; simp
        · intro p hp; simp only [List.mem_cons, List.not_mem_nil, or_false] at hp; rcases hp with rfl | rfl | rfl <;> exact mem_of_look (by rfl)
    · intro s₃ F₃ _ _
      have e : ((List.range ((x.length : Int)).toNat).map fun i : Nat => Dat.int (i : Int)).length = x.length := by simp
      rw [e] at F₃
      have t₃ := t.ext (k.ext.trans F₃.same.ext)
      refine ex_return (d := .int (minL (piF x n x.length))) F₃ ?_ fun v s' r k₁ _ => ⟨r, k₁⟩
      exact EV.callB (ds := [.list ((piF x n x.length).map .int)]) (ev_blt t₃ hk hg hb hmi (by kernel_rfl) (by kernel_rfl) (by kernel_rfl) (by kernel_rfl)) (.cons (EV.name F₃.loc hk rfl (.inl (K _ (by decide))) rfl) .nil rfl) (Fn.min hr.handled (minL_is (piF_len _).1)) rfl fun _ => rfl
end Mine
end
end
section
open PySem PySem.W PyProof.Rows
set_option Elab.async false
set_option linter.unusedVariables false
set_option maxRecDepth 100000
noncomputable section
namespace Mine
noncomputable def noiseL : List Int := [173, 847, 6150, 6155, 6156, 6157, 8203, 8204, 8205, 8288, 65279]
noncomputable def basesL : List Int := [65, 119808, 119860, 119912, 120016, 120172, 120224, 120276, 120328, 120380, 120432]
noncomputable def signsS : Str := ⟨#[223, 383, 8360, 8480, 13261, 64256, 64257, 64258, 64259, 64260, 64261, 64262]⟩
noncomputable def meantL : List Str := ["ss", "s", "rs", "sm", "kk", "ff", "fi", "fl", "ffi", "ffl", "st", "st"]
noncomputable def aheadF (rest : Int) : Str := if (rest.fdiv 33).fmod 4 = 0 then ⟨#[(if (rest.fdiv 132).fmod 27 < 11 then noiseL.getD ((rest.fdiv 132).fmod 27).toNat 0 else 65013 + (rest.fdiv 132).fmod 27).toNat]⟩ else ""
noncomputable def drawnF (number : Int) : Str × Str :=
  let rest := number.fdiv 3
  let kind := number.fmod 3
  if kind = 0 then (aheadF rest ++ ⟨#[signsS.cps.toList.getD (rest.fmod 12).toNat 0]⟩, meantL.getD (rest.fmod 12).toNat "")
  else (aheadF rest ++ ⟨#[((if kind = 1 then basesL.getD ((rest.fdiv 3).fmod 11).toNat 0 else 97) + [5, 18, 10].getD (rest.fmod 3).toNat 0 : Int).toNat]⟩, ⟨#[("fsk" : Str).cps.toList.getD (rest.fmod 3).toNat 0]⟩)
end Mine
end
end
open Mine PySem PySem.W PyProof.Rows
local macro_rules | `(tactic| walk_at "kr") => `(tactic| first | ((rename (_ : Env) = callEnvC _ _ _ => hzz); (rw [hzz]); kernel_rfl) | kernel_rfl)
local macro_rules | `(tactic| walk_at "side") => `(tactic| first | assumption | decide | omega | (simp only [List.length_map, List.length_cons, List.length_nil, List.length_append, List.length_range, len1, sizeLine_eq]; omega))
local macro_rules | `(tactic| walk_at "tf") => `(tactic| first | assumption | exact TF.ext (by assumption) ((At.ext (by assumption)).trans (Kp.ext (Fm.same (by assumption)))) | (refine TF.ext ?_ (by assumption); walk_at "tf"))
local macro_rules | `(tactic| walk_at "loc") => `(tactic| first | assumption | exact Fm.loc (by assumption))
local macro_rules | `(tactic| walk_at "bse") => `(tactic| first | assumption | exact Bse.comp (by walk_at "bse") rfl | exact ⟨rfl, rfl, rfl⟩)
local macro_rules | `(tactic| walk_at "mem") => `(tactic| first | (with_reducible exact List.mem_cons_self) | ((with_reducible refine List.mem_cons_of_mem _ ?_); walk_at "mem") | ((with_reducible refine mem_drop ?_ ?_); (walk_at "mem"); kernel_rfl))
local macro_rules | `(tactic| walk_at "rea") => `(tactic| first | ((with_reducible apply CellN.rea); (with_reducible assumption); walk_at "mem") | exact .inl (by walk_at "kr"))
local macro_rules | `(tactic| walk_at "name") => `(tactic| ((with_reducible apply EV.nameM); (walk_at "loc"); (exact Bse.kind (by walk_at "bse")); (walk_at "mem"); (walk_at "rea"); kernel_rfl))
local macro_rules | `(tactic| walk_at "op") => `(tactic| first
  | (with_reducible exact Bin.addI)
  | (with_reducible exact Bin.subI)
  | ((with_reducible refine Bin.modI ?_); walk_at "side")
  | ((with_reducible refine Bin.divI ?_ ?_); (walk_at "side"); exact PyProof.noPylong_small (by decide))
  | ((with_reducible refine Bin.addS ?_); walk_at "side")
  | ((with_reducible refine Bin.addL ?_); walk_at "side")
  | ((with_reducible refine Bin.mulI ?_); first | assumption | mul_fits)
  | assumption)
local macro_rules | `(tactic| walk_at "cmp") => `(tactic| first
  | (with_reducible exact Cmp.ltI)
  | (with_reducible exact Cmp.leI)
  | (with_reducible exact Cmp.gtI)
  | (with_reducible exact Cmp.geI)
  | (with_reducible exact Cmp.eqI)
  | (with_reducible exact Cmp.neI)
  | (with_reducible exact Cmp.eqS)
  | (with_reducible exact Cmp.neS)
  | assumption)
local macro_rules | `(tactic| walk_at "itm") => `(tactic| first
  | (with_reducible assumption)
  | ((with_reducible apply Itm.list); (walk_at "side"); (walk_at "side"); assumption)
  | ((with_reducible apply Itm.tup); (walk_at "side"); (walk_at "side"); first | assumption | rfl)
  | ((with_reducible apply Itm.str); (walk_at "side"); (walk_at "side"); assumption))
local macro_rules | `(tactic| walk_at "evs") => `(tactic| first
  | (with_reducible exact EVs.nil)
  | ((with_reducible apply EVs.cons); (walk_at "ev"); (walk_at "evs"); rfl))
local macro_rules | `(tactic| walk_at "call") => `(tactic| first
  | ((with_reducible apply cLen); (walk_at "tf"); (walk_at "bse"); (walk_at "kr"); (walk_at "ev"); (walk_at "side"); rfl)
  | ((with_reducible apply cLenS); (walk_at "tf"); (walk_at "bse"); (walk_at "kr"); (walk_at "ev"); (walk_at "side"); rfl)
  | ((with_reducible apply cLenT); (walk_at "tf"); (walk_at "bse"); (walk_at "kr"); (walk_at "ev"); (walk_at "side"); rfl)
  | ((with_reducible apply cChr); (walk_at "tf"); (walk_at "bse"); (walk_at "kr"); (walk_at "ev"); (walk_at "side"); (walk_at "side"); rfl)
  | ((with_reducible apply cSum); (walk_at "tf"); (walk_at "bse"); (exact Rm.handled (by assumption)); (walk_at "kr"); (walk_at "ev"); rfl)
  | ((with_reducible apply cMax); (walk_at "tf"); (walk_at "bse"); (exact Rm.handled (by assumption)); (walk_at "kr"); (walk_at "ev"); assumption; rfl)
  | ((with_reducible apply cMin); (walk_at "tf"); (walk_at "bse"); (exact Rm.handled (by assumption)); (walk_at "kr"); (walk_at "ev"); assumption; rfl)
  | ((with_reducible apply cMax2); (walk_at "tf"); (walk_at "bse"); (exact Rm.handled (by assumption)); (walk_at "kr"); (walk_at "ev"); (walk_at "ev"); rfl; rfl)
  | ((with_reducible apply cMin2); (walk_at "tf"); (walk_at "bse"); (exact Rm.handled (by assumption)); (walk_at "kr"); (walk_at "ev"); (walk_at "ev"); rfl; rfl)
  | ((with_reducible apply cDivmod); (walk_at "tf"); (walk_at "bse"); (walk_at "kr"); (walk_at "ev"); (walk_at "ev"); (walk_at "side"); (exact PyProof.noPylong_small (by decide)); rfl; rfl)
  | ((with_reducible apply cTuple); (walk_at "tf"); (walk_at "bse"); (walk_at "kr"); (walk_at "ev"); (walk_at "side"); rfl))
local macro_rules | `(tactic| walk_at "ev") => `(tactic| first
  | walk_at "name"
  | (with_reducible exact EV.int)
  | (with_reducible exact EV.str)
  | (with_reducible exact EV.none)
  | (with_reducible exact EV.bool)
  | ((with_reducible apply EV.bin); (walk_at "ev"); (walk_at "ev"); walk_at "op")
  | ((with_reducible apply EV.sub); (walk_at "ev"); (walk_at "ev"); walk_at "itm")
  | ((with_reducible apply EV.neg); walk_at "ev")
  | ((with_reducible apply EV.list); (walk_at "evs"); walk_at "side")
  | ((with_reducible apply EV.tup); (walk_at "evs"); walk_at "side")
  | ((with_reducible apply EV.cmp); (walk_at "ev"); (walk_at "ev"); (walk_at "cmp"); rfl)
  | ((with_reducible apply EV.iteI); (walk_at "tv"); (intro _; walk_at "ev"); (intro _; walk_at "ev"))
  | ((with_reducible apply EV.iteS); (walk_at "tv"); (intro _; walk_at "ev"); (intro _; walk_at "ev"))
  | ((with_reducible apply EV.iteD); (walk_at "tv"); (intro _; walk_at "ev"); (intro _; walk_at "ev"))
  | walk_at "call"
  | (with_reducible assumption))
local macro_rules | `(tactic| walk_at "tv") => `(tactic| first
  | ((with_reducible apply TV.cmp); (walk_at "ev"); (walk_at "ev"); (walk_at "cmp"); rfl)
  | ((with_reducible apply TV.not); walk_at "tv")
  | ((with_reducible apply TV.of_value); (walk_at "ev"); exact fun _ => rfl))
local macro_rules | `(tactic| walk_at "ints") => `(tactic| (with_reducible refine EV.list (EVs.ints ?_) ?_; kernel_rfl; decide))
local macro_rules | `(tactic| walk_at "strs") => `(tactic| (with_reducible refine EV.list (EVs.strs ?_) ?_; kernel_rfl; decide))
local macro_rules | `(tactic| walk_at "sub") => `(tactic| ((try dsimp only); first | exact fun p hp => absurd hp List.not_mem_nil | ((refine List.forall_mem_cons.mpr ⟨?_, ?_⟩); (walk_at "mem"); walk_at "sub")))
local macro_rules | `(tactic| walk_at "evc") => `(tactic| ((with_reducible apply EV.cast); (walk_at "ev"); first | rfl | (congr 1; omega)))
local macro_rules | `(tactic| walk_at "sto") => `(tactic| first | ((with_reducible apply StoN.sto); (with_reducible assumption); walk_at "mem") | exact .inl (by walk_at "kr"))
local macro_rules | `(tactic| walk_at "lk") => `(tactic| first | exact fun q hq => absurd hq List.not_mem_nil | ((refine List.forall_mem_cons.mpr ⟨?_, ?_⟩); (walk_at "kr"); walk_at "lk"))
section
open PySem PySem.W PyProof.Rows
set_option Elab.async false
set_option linter.unusedVariables false
set_option maxRecDepth 100000
set_option maxHeartbeats 400000
noncomputable section
namespace Mine
variable {w : World} {A : Around} {X : Addr → Prop} {h : Heap} {env : Env}
theorem fmod_lo (a : Int) {b : Int} (hb : 0 < b) : 0 ≤ a.fmod b := Int.fmod_nonneg_of_pos a hb
theorem fmod_hi (a : Int) {b : Int} (hb : 0 < b) : a.fmod b < b := Int.fmod_lt_of_pos a hb
theorem aheadF_len (r : Int) : (aheadF r).length ≤ 1 := by
  unfold aheadF
  split
  · exact Nat.le_refl 1
  · exact Nat.zero_le 1
theorem getD_of {p : Int → Prop} {l : List Int} (h : ∀ x ∈ l, p x) (h0 : p 0) (i : Nat) : p (l.getD i 0) := by
  by_cases hi : i < l.length
  · have : l.getD i 0 = l[i] := by simp [List.getD, hi]
    rw [this]; exact h _ (List.getElem_mem hi)
  · have : l.getD i 0 = 0 := by simp [List.getD, Nat.le_of_not_lt hi]
    rw [this]; exact h0
theorem bases_ok (i : Nat) : 0 ≤ basesL.getD i 0 ∧ basesL.getD i 0 < 1000000 := getD_of (p := fun x => 0 ≤ x ∧ x < 1000000) (by decide +kernel) (by decide) i
theorem noise_ok (i : Nat) : 0 ≤ noiseL.getD i 0 ∧ noiseL.getD i 0 ≤ 1114111 := getD_of (p := fun x => 0 ≤ x ∧ x ≤ 1114111) (by decide +kernel) (by decide) i
theorem lets_ok (i : Nat) : 0 ≤ ([5, 18, 10] : List Int).getD i 0 ∧ ([5, 18, 10] : List Int).getD i 0 < 19 := getD_of (p := fun x => 0 ≤ x ∧ x < 19) (by decide +kernel) (by decide) i
theorem law_drawn_ok (t : TF w h) (hr : Rm A 6) {number : Int} : FnH pwT w A X h (.ref 176) [.int number] (.list [.str (drawnF number).1, .str (drawnF number).2]) := by
  have hd : IsDef h 176 _ := t.fn (o := o_12_176 w.params) (by kernel_rfl) (by decide +kernel) rfl
  have hc : CodeS h (.ref 175) (Str.ofString "_law_drawn") := t.code (o := o_12_175 w.params) (by kernel_rfl) (by decide +kernel) rfl ⟨_, _, rfl, rfl⟩
  have szl : sizeLine = 16777216 := rfl
  refine FnH.introR (xs := ["number"]) hd hr.room t.lim hc rfl rfl (by decide) ?_ rfl ?_ ?_ (no_cells (ns := (stS (stN 12)).names) (by intro n; kernel_rfl)) rfl rfl rfl
  · intro s vs _ hl
    match vs, hl with
    | [v], _ => kernel_rfl
  · intro y hy n
    rw [List.mem_singleton.mp hy]
    exact .inl (by kernel_rfl)
  · intro s s₁ E env henv k O F
    have K : ∀ y, y ∈ (["number", "noise", "bases", "signs", "meant", "rest", "kind", "strange", "ahead", "base"] : List Str) → env.kindOf y = some .local := by
      subst henv; show ∀ y ∈ (["number", "noise", "bases", "signs", "meant", "rest", "kind", "strange", "ahead", "base"] : List Str), (stS (stN 12)).names.lookup y = some .local; decide +kernel
    have be : Bse env := henv ▸ .call rfl rfl rfl
    have F := F.re (ρ' := [("number", .int number)]) rfl
    refine .from (.at 0 rfl ?_)
    refine .assignN (.list (noiseL.map .int)) O F ?_ ?_ ?_ ?_ fun s₂ F₂ st₂ => .at 1 rfl ?_
    · walk_at "ints"
    · exact .inl (by walk_at "kr")
    · walk_at "kr"
    · walk_at "kr"
    refine .assignN (.list (basesL.map .int)) O F₂ ?_ (.inl (by walk_at "kr")) (by walk_at "kr") (by walk_at "kr") fun s₃ F₃ st₃ => .at 2 rfl ?_
    · walk_at "ints"
    refine .assignN (.str signsS) O F₃ ?_ (.inl (by walk_at "kr")) (by walk_at "kr") (by walk_at "kr") fun s₄ F₄ st₄ => .at 3 rfl ?_
    · with_reducible refine EV.cast EV.str ?_
      kernel_rfl
    refine .assignN (.list (meantL.map .str)) O F₄ ?_ (.inl (by walk_at "kr")) (by walk_at "kr") (by walk_at "kr") fun s₅ F₅ st₅ => .at 4 rfl ?_
    · walk_at "strs"
    refine .unpack ["rest", "kind"] (.tup [.int (number.fdiv 3), .int (number.fmod 3)]) O F₅ ?_ (Asg.tup hr.handled rfl rfl) (by decide) (sto (fun x hx => K x (by revert x; decide))) (by walk_at "kr") (by walk_at "kr") fun s₆ F₆ st₆ => .at 5 rfl ?_
    · walk_at "ev"
    have F₆ := F₆.re (ρ' := [("rest", .int (number.fdiv 3)), ("kind", .int (number.fmod 3)), ("meant", .list (meantL.map .str)), ("signs", .str signsS), ("bases", .list (basesL.map .int)), ("noise", .list (noiseL.map .int)), ("number", .int number)]) (by kernel_rfl)
    generalize hrest : number.fdiv 3 = rest at F₆
    refine .assignN (.int ((rest.fdiv 132).fmod 27)) O F₆ ?_ (.inl (by walk_at "kr")) (by walk_at "kr") (by walk_at "kr") fun s₇ F₇ st₇ => .at 6 rfl ?_
    · walk_at "ev"
    refine .assignN (.str "") O F₇ ?_ (.inl (by walk_at "kr")) (by walk_at "kr") (by walk_at "kr") fun s₈ F₈ st₈ => .at 7 rfl ?_
    · walk_at "ev"
    have tail : ∀ s', Fm env X Ø s s' [("ahead", .str (aheadF rest)), ("strange", .int ((rest.fdiv 132).fmod 27)), ("rest", .int rest), ("kind", .int (number.fmod 3)), ("meant", .list (meantL.map .str)), ("signs", .str signsS), ("bases", .list (basesL.map .int)), ("noise", .list (noiseL.map .int)), ("number", .int number)] →
        Run pwT w (A.deeper env) env ((stB (stN 12)).drop 8) (fun f s' => Rd X s'.heap (match f with | .ret v => v | _ => .none) (.list [.str (drawnF number).1, .str (drawnF number).2]) ∧ Kp s s') E s' := by
      intro s₉ F₉
      have b12 : 0 ≤ rest.fmod 12 ∧ rest.fmod 12 < 12 := ⟨fmod_lo _ (by decide), fmod_hi _ (by decide)⟩
      have b11 : 0 ≤ (rest.fdiv 3).fmod 11 ∧ (rest.fdiv 3).fmod 11 < 11 := ⟨fmod_lo _ (by decide), fmod_hi _ (by decide)⟩
      have b3 : 0 ≤ rest.fmod 3 ∧ rest.fmod 3 < 3 := ⟨fmod_lo _ (by decide), fmod_hi _ (by decide)⟩
      have g1 := get_cp (x := signsS) b12.1 (by rw [show signsS.cps.toList.length = 12 by decide +kernel]; omega)
      have g2 := get_str (xs := meantL) b12.1 (by rw [show meantL.length = 12 by decide +kernel]; omega)
      have g3 := get_int (xs := basesL) b11.1 (by rw [show basesL.length = 11 by decide +kernel]; omega)
      have g4 := get_int (xs := [5, 18, 10]) b3.1 (by simp; omega)
      have g5 := get_cp (x := ("fsk" : Str)) b3.1 (by rw [show ("fsk" : Str).cps.toList.length = 3 by decide +kernel]; omega)
      refine .at 8 rfl (.if F₉ (decide (number.fmod 3 = 0)) ?_ fun s₁₀ k₁₀ F₁₀ => ?_)
      · walk_at "tv"
      by_cases hkind : number.fmod 3 = 0
      · rw [if_pos (by simpa using hkind)]
        have la := aheadF_len rest
        refine .ret (.list [.str (aheadF rest ++ ⟨#[signsS.cps.toList.getD (rest.fmod 12).toNat 0]⟩), .str (meantL.getD (rest.fmod 12).toNat "")]) F₁₀ ?_ fun v s' r k₁ _ => ⟨?_, k₁⟩
        · walk_at "ev"
        · have e : drawnF number = (aheadF rest ++ ⟨#[signsS.cps.toList.getD (rest.fmod 12).toNat 0]⟩, meantL.getD (rest.fmod 12).toNat "") := by
            unfold drawnF; rw [hrest]; exact if_pos hkind
          rw [e]; exact r
      · rw [if_neg (by simpa using hkind)]
        refine .nil (.at 9 rfl ?_)
        refine .assignN (.int (if decide (number.fmod 3 = 1) = true then basesL.getD ((rest.fdiv 3).fmod 11).toNat 0 else 97)) O F₁₀ ?_ (.inl (by walk_at "kr")) (by walk_at "kr") (by walk_at "kr") fun s₁₁ F₁₁ st₁₁ => .at 10 rfl ?_
        · walk_at "ev"
        generalize hb : (if decide (number.fmod 3 = 1) = true then basesL.getD ((rest.fdiv 3).fmod 11).toNat 0 else 97) = base at F₁₁
        have la := aheadF_len rest
        have bb : 0 ≤ base ∧ base < 1000000 := by
          rw [← hb]; split
          · exact bases_ok _
          · decide
        have cc : 0 ≤ ([5, 18, 10] : List Int).getD (rest.fmod 3).toNat 0 ∧ ([5, 18, 10] : List Int).getD (rest.fmod 3).toNat 0 < 19 := lets_ok _
        refine .ret (.list [.str (aheadF rest ++ ⟨#[(base + ([5, 18, 10] : List Int).getD (rest.fmod 3).toNat 0).toNat]⟩), .str ⟨#[("fsk" : Str).cps.toList.getD (rest.fmod 3).toNat 0]⟩]) F₁₁ ?_ fun v s' r k₁ _ => ⟨?_, k₁⟩
        · walk_at "ev"
        · have e : drawnF number = (aheadF rest ++ ⟨#[(base + ([5, 18, 10] : List Int).getD (rest.fmod 3).toNat 0).toNat]⟩, ⟨#[("fsk" : Str).cps.toList.getD (rest.fmod 3).toNat 0]⟩) := by
            unfold drawnF; rw [hrest, ← hb]; simp only [decide_eq_true_eq]; exact if_neg hkind
          rw [e]; exact r
    refine .if F₈ (decide ((rest.fdiv 33).fmod 4 = 0)) ?_ fun s₉ k₉ F₉ => ?_
    · walk_at "tv"
    by_cases h4 : (rest.fdiv 33).fmod 4 = 0
    · rw [if_pos (by simpa using h4)]
      have b27 : 0 ≤ (rest.fdiv 132).fmod 27 ∧ (rest.fdiv 132).fmod 27 < 27 := ⟨fmod_lo _ (by decide), fmod_hi _ (by decide)⟩
      have ea : aheadF rest = ⟨#[(if (rest.fdiv 132).fmod 27 < 11 then noiseL.getD ((rest.fdiv 132).fmod 27).toNat 0 else 65013 + (rest.fdiv 132).fmod 27).toNat]⟩ := if_pos h4
      rw [ea] at tail
      generalize (rest.fdiv 132).fmod 27 = st at F₉ b27 tail
      refine .assign (.str ⟨#[(if st < 11 then noiseL.getD st.toNat 0 else 65013 + st).toNat]⟩) O F₉ ?_ (.inl (by walk_at "kr")) (by walk_at "kr") fun s₁₀ F₁₀ st₁₀ => .nil (.aft (tail _ (F₁₀.re (by kernel_rfl))))
      refine EV.cast (d := .str ⟨#[(if decide (st < 11) = true then noiseL.getD st.toNat 0 else 65013 + st).toNat]⟩) ?_ (by simp only [decide_eq_true_eq])
      have nn : 0 ≤ (if decide (st < 11) = true then noiseL.getD st.toNat 0 else 65013 + st) ∧ (if decide (st < 11) = true then noiseL.getD st.toNat 0 else 65013 + st) ≤ 1114111 := by
        split
        · exact noise_ok _
        · omega
      obtain ⟨n1, n2⟩ := nn
      with_reducible apply cChr
      · walk_at "tf"
      · walk_at "bse"
      · walk_at "kr"
      · with_reducible apply EV.iteI
        · walk_at "tv"
        · intro hlt
          have hlt := of_decide_eq_true hlt
          have g := get_int (xs := noiseL) b27.1 (by rw [show noiseL.length = 11 by decide +kernel]; omega)
          walk_at "ev"
        · intro _
          walk_at "ev"
      · exact n1
      · exact n2
      · rfl
    · rw [if_neg (by simpa using h4)]
      refine .nil (tail _ ?_)
      have e : aheadF rest = "" := if_neg h4
      rw [e]
      exact F₉
end Mine
end
end
section
open PySem PySem.W PyProof.Rows
set_option Elab.async false
set_option linter.unusedVariables false
set_option maxRecDepth 100000
set_option maxHeartbeats 1000000
noncomputable section
namespace Mine
variable {w : World} {A : Around} {X : Addr → Prop} {h : Heap} {env : Env}
noncomputable def KT (P : Params) : Frag := [(165, o_10_165 P), (164, o_10_164 P), (120, o_10_120 P), (127, o_10_127 P), (134, o_10_134 P), (2, boot_o_2 P)]
theorem mem_lk {β : Type} {a : Nat} {b : β} : ∀ {l : List (Nat × β)}, l.lookup a = some b → (a, b) ∈ l
  | [], h => by simp at h
  | (c, d) :: l, h => by
    rw [List.lookup_cons] at h
    split at h
    · rename_i e; cases h; rw [eq_of_beq e]; exact .head _
    · exact .tail _ (mem_lk h)
noncomputable def isFields : Data → Bool
  | .fields _ => true
  | _ => false
theorem solid_not {b : Addr} {o : Obj} (h : isFields o.data = false) : Solid b o := .inr (fun ⟨_, vs, e⟩ => by rw [e] at h; cases h)
theorem TF.K (t : TF w h) : KIn (KT w.params) h := by
  have e : ∀ p ∈ KT w.params, Sg h p.1 p.2 := by
    intro p hp
    simp only [KT, List.mem_cons, List.not_mem_nil, or_false] at hp
    rcases hp with rfl | rfl | rfl | rfl | rfl | rfl
    · exact t.obj 165 (o_10_165 w.params) (by kernel_rfl) (by decide +kernel) (solid_not (by kernel_rfl))
    · exact t.obj 164 (o_10_164 w.params) (by kernel_rfl) (by decide +kernel) (solid_not (by kernel_rfl))
    · exact t.obj 120 (o_10_120 w.params) (by kernel_rfl) (by decide +kernel) (solid_not (by kernel_rfl))
    · exact t.obj 127 (o_10_127 w.params) (by kernel_rfl) (by decide +kernel) (solid_not (by kernel_rfl))
    · exact t.obj 134 (o_10_134 w.params) (by kernel_rfl) (by decide +kernel) (solid_not (by kernel_rfl))
    · exact t.obj 2 (boot_o_2 w.params) (by kernel_rfl) (by decide +kernel) (solid_not (by kernel_rfl))
  intro a o q
  exact e (a, o) (mem_lk q)
theorem k_makes (P : Params) : makesIn (KT P) 165 = true := by kernel_rfl
theorem k_keep (P : Params) : keepIn (KT P) (.ref 165) = true := by kernel_rfl
theorem k_init (P : Params) : findIn (KT P) (.ref 165) "__init__" = some (some (.ref 120)) := by kernel_rfl
theorem k_fn1 (P : Params) : typeIn (KT P) (.ref 120) = some (.type "function") := by kernel_rfl
theorem k_set (P : Params) : findIn (KT P) (.ref 165) "__setattr__" = some (some (.builtin "object.__setattr__")) := by kernel_rfl
theorem k_over (P : Params) : plainOver (KT P) 165 = true := by kernel_rfl
theorem k_hasd (P : Params) : (clsIn (KT P) 165).any (·.hasDict) = true := by kernel_rfl
theorem k_t1 (P : Params) : takerIn (KT P) 165 "raw" = some none := by kernel_rfl
theorem k_t2 (P : Params) : takerIn (KT P) 165 "n" = some none := by kernel_rfl
theorem k_t3 (P : Params) : takerIn (KT P) 165 "nt" = some none := by kernel_rfl
theorem k_t4 (P : Params) : takerIn (KT P) 165 "norm" = some none := by kernel_rfl
theorem k_t5 (P : Params) : takerIn (KT P) 165 "is_simple" = some none := by kernel_rfl
theorem k_reads (P : Params) : readsIn (KT P) 165 (.type "type") = true := by kernel_rfl
theorem k_ga (P : Params) : findIn (KT P) (.ref 165) "__getattribute__" = some (some (.builtin "object.__getattribute__")) := by kernel_rfl
theorem k_gat (P : Params) : findIn (KT P) (.ref 165) "__getattr__" = some none := by kernel_rfl
noncomputable def tokV : Option CFound → Nat
  | some (.val (.str _ t)) => t
  | _ => 0
noncomputable def tokS (P : Params) : Nat := tokV (findCls (KT P) (.ref 165) (.type "type") "S")
noncomputable def tokT (P : Params) : Nat := tokV (findCls (KT P) (.ref 165) (.type "type") "T")
theorem k_S (P : Params) : findCls (KT P) (.ref 165) (.type "type") "S" = some (.val (.str " " (tokS P))) := by kernel_rfl
theorem k_T (P : Params) : findCls (KT P) (.ref 165) (.type "type") "T" = some (.val (.str "\t" (tokT P))) := by kernel_rfl
end Mine
end
end
section
open PySem PySem.W PyProof.Rows
set_option Elab.async false
set_option linter.unusedVariables false
set_option maxRecDepth 100000
set_option maxHeartbeats 1000000
noncomputable section
namespace Mine
variable {w : World} {A : Around} {X : Addr → Prop} {h : Heap} {env : Env}
structure WS where
  cnt : List Int
  b : Nat
  n : Nat
  nt : Nat
noncomputable def bump (cnt : List Int) (b : Nat) : List Int :=
  let c := if cnt.length ≤ b then cnt ++ List.replicate (b - cnt.length + 1) 0 else cnt
  c.set b (c.getD b 0 + 1)
noncomputable def wsGo : List Nat → WS → WS
  | [], st => st
  | c :: cs, st => if c = 32 then wsGo cs ⟨st.cnt, st.b + 1, st.n + 1, st.nt⟩ else if c = 9 then wsGo cs ⟨bump st.cnt st.b, 0, st.n + 1, st.nt + 1⟩ else st
noncomputable def wsOf (T : Str) : WS := wsGo T.cps.toList ⟨[], 0, 0, 0⟩
noncomputable def kh (P : Params) (x : Str) : Int := PyData.keyHash P x
noncomputable def wsD (P : Params) (t : Nat → Tok) (v1 v2 v3 v4 v5 : Value) : Obj :=
  insD [⟨PyData.keyHash P "raw", .str "raw" (t 1), v1⟩, ⟨PyData.keyHash P "n", .str "n" (t 2), v2⟩, ⟨PyData.keyHash P "nt", .str "nt" (t 3), v3⟩, ⟨PyData.keyHash P "norm", .str "norm" (t 4), v4⟩, ⟨PyData.keyHash P "is_simple", .str "is_simple" (t 5), v5⟩] 5
noncomputable def WsAt (w : World) (R : WS) (h : Heap) (x dx : Addr) : Prop :=
  ∃ t v1 v2 v3 v4 v5, Sg h x (instObj 165 dx) ∧ Sg h dx (wsD w.params t v1 v2 v3 v4 v5) ∧ Rd Ø h v2 (.int R.n) ∧ Rd Ø h v3 (.int R.nt) ∧ Rd Ø h v4 (.tup [.tup (R.cnt.map .int), .int R.b]) ∧ Rd Ø h v5 (.bool (decide (R.cnt.length ≤ 1)))
theorem WsAt.keep {R : WS} {a b : Heap} {x dx : Addr} (q : WsAt w R a x dx) (k : SeqExt Ø a b) (k1 : ∀ o, Sg a x o → Sg b x o) (k2 : ∀ o, Sg a dx o → Sg b dx o) : WsAt w R b x dx := by
  obtain ⟨t, v1, v2, v3, v4, v5, a1, a2, a3, a4, a5, a6⟩ := q
  exact ⟨t, v1, v2, v3, v4, v5, k1 _ a1, k2 _ a2, a3.mono k, a4.mono k, a5.mono k, a6.mono k⟩
theorem WsAt.ext {R : WS} {a b : Heap} {x dx : Addr} (q : WsAt w R a x dx) (k : Ext a b) : WsAt w R b x dx := q.keep k.seq (fun o e => k.kept _ _ e) fun o e => k.kept _ _ e
theorem one_sp (c : Nat) : (Str.mk #[c] = (" " : Str)) ↔ c = 32 := by
  rw [show (" " : Str) = Str.mk #[32] by decide +kernel]; simp
theorem one_tab (c : Nat) : (Str.mk #[c] = ("\t" : Str)) ↔ c = 9 := by
  rw [show ("\t" : Str) = Str.mk #[9] by decide +kernel]; simp
structure ExW (w : World) (X₀ : Addr → Prop) (T : Str) (dx l : Addr) (raw : DictEntry) (h₅ : Heap) (i : Nat) (r : Addr × WS) (s : Shared) : Prop where
  go : wsGo (T.cps.toList.drop i) r.2 = wsOf T
  b : r.2.b ≤ i
  len : r.2.cnt.length ≤ i + 1
  lst : ∃ vs, s.heap.PlainList r.1 vs.toArray ∧ RdL X₀ s.heap vs (r.2.cnt.map .int)
  old : r.1 = l ∨ ∀ o, ¬ Sg h₅ r.1 o
  not : ¬ X₀ r.1
  dict : s.heap.get? dx = some (insD [raw] 1)
noncomputable def ρW (T : Str) (dx : Addr) (_ : Nat) (r : Addr × WS) : List (Str × Dat) := [("nt", .int r.2.nt), ("n", .int r.2.n), ("b", .int r.2.b), ("count", .val (.ref r.1)), ("T", .str "\t"), ("S", .str " "), ("self", .val (.ref (dx + 1))), ("ws", .str T)]
theorem rep_zero (k : Nat) : (List.replicate k [Dat.int 0]).flatten = (List.replicate k (0 : Int)).map Dat.int := by
  induction k with
  | zero => rfl
  | succ k ih => rw [List.replicate_succ, List.flatten_cons, ih]; rfl
theorem bump_len (cnt : List Int) (b : Nat) : (bump cnt b).length ≤ max cnt.length (b + 1) := by
  unfold bump
  simp only [List.length_set]
  split
  · simp only [List.length_append, List.length_replicate]; omega
  · omega
theorem wsGo_len {N : Nat} : ∀ (cs : List Nat) (st : WS), st.cnt.length ≤ N → st.b + cs.length ≤ N → (wsGo cs st).cnt.length ≤ N
  | [], st, h, _ => h
  | c :: cs, st, h, h2 => by
    simp only [List.length_cons] at h2
    unfold wsGo
    split
    · exact wsGo_len cs _ h (by show st.b + 1 + cs.length ≤ N; omega)
    · split
      · have := bump_len st.cnt st.b
        exact wsGo_len cs _ (by show (bump st.cnt st.b).length ≤ N; omega) (by show 0 + cs.length ≤ N; omega)
      · exact h
theorem init_ok (t : TF w h) (hr : Rm A 6) (T : Str) (hT : T.length < 2 ^ 20) : InitH pwT w A X h 120 165 (.str T) (WsAt w (wsOf T)) := by
  have hd : IsDef h 120 _ := t.fn (o := o_10_120 w.params) (by kernel_rfl) (by decide +kernel) rfl
  have hc : CodeS h (.ref 119) (Str.ofString "Whitespace.__init__") := t.code (o := o_10_119 w.params) (by kernel_rfl) (by decide +kernel) rfl ⟨_, _, rfl, rfl⟩
  refine InitH.intro (x₁ := "self") (x₂ := "ws") hd hr.room t.lim hc rfl (by decide) (fun v₁ v₂ => by kernel_rfl) rfl ?_ ?_ (no_cells (ns := (stS (stM 10 1)).names) (by intro n; kernel_rfl)) rfl rfl rfl
  · intro y hy n
    have : ∀ y ∈ (["self", "ws"] : List Str), (stS (stM 10 1)).names.lookup y = some .local := by decide +kernel
    exact .inl (this y hy)
  · intro s s₁ E env dx henv hdx k O F hdict hobj
    have K : ∀ y, y ∈ (["self", "ws", "S", "T", "count", "b", "n", "nt", "ch"] : List Str) → env.kindOf y = some .local := by
      subst henv; show ∀ y ∈ (["self", "ws", "S", "T", "count", "b", "n", "nt", "ch"] : List Str), (stS (stM 10 1)).names.lookup y = some .local; decide +kernel
    have be : Bse env := henv ▸ .call rfl rfl rfl
    have hr' := hr.deeper env
    have hK0 : KIn (KT w.params) s.heap := (t.ext k.ext).K
    have hKd : ∀ o, (KT w.params).lookup dx ≠ some o := fun o e => by
      have := hK0 dx o e
      rw [hdx] at this; exact not_size o this
    have szl : sizeLine = 16777216 := rfl
    refine .from (.at 0 rfl ?_)
    refine .setAttr (K := KT w.params) (C := 165) (es := []) (n := 0) (d := .str T) F (.inr rfl) (.inr rfl) be.kind (by kernel_rfl) (by walk_at "rea") (by kernel_rfl) (TF.K (by walk_at "tf")) hobj hdict hKd (Nat.succ_ne_self _) (k_set _) (k_over _) (k_t1 _) (k_hasd _) (by kernel_rfl) (by decide) (fun v tk => by kernel_rfl) ?_ (by walk_at "kr") fun s₂ v₁ tk₁ F₂ st₂ r₁ d₂ K₂ o₂ => .at 1 rfl ?_
    · walk_at "ev"
    have F₂ := F₂.noM
    have t₂ : TF w s₂.heap := by walk_at "tf"
    refine .swap ["S", "T"] [.str " ", .str "\t"] hr.handled O F₂ ?_ (by decide) rfl (sto fun x hx => K x (by revert x; decide)) (by walk_at "kr") (by walk_at "kr") fun s₃ F₃ st₃ => .at 2 rfl ?_
    · with_reducible apply EV.tup
      · with_reducible apply EVs.cons
        · exact EV.clsAttr (C := 165) (ev_g t₂ be (by walk_at "kr") (by kernel_rfl) (by kernel_rfl)) K₂ rfl (k_reads _) (k_S _) rfl (fun _ => .str _ _) (fun _ _ => rfl)
        · with_reducible apply EVs.cons
          · exact EV.clsAttr (C := 165) (ev_g t₂ be (by walk_at "kr") (by kernel_rfl) (by kernel_rfl)) K₂ rfl (k_reads _) (k_T _) rfl (fun _ => .str _ _) (fun _ _ => rfl)
          · exact .nil
          · rfl
        · rfl
      · walk_at "side"
    clear t₂
    have F₃ := F₃.re (ρ' := [("T", .str "\t"), ("S", .str " "), ("self", .val (.ref (dx + 1))), ("ws", .str T)]) (by kernel_rfl)
    have d₃ : s₃.heap.get? dx = some (insD [⟨PyData.keyHash w.params "raw", .str "raw" tk₁, v₁⟩] 1) := (st₃.kept dx _ (F₂.own dx (.inr rfl)) (fun z => z) ⟨d₂, solid_cls rfl⟩).1
    refine .own O F₃ (EVN.list .nil (by decide)) (.inl (by walk_at "kr")) (by walk_at "kr") fun s₄ l vs F₄ st₄ hl hp hr₀ => .at 3 rfl ?_
    obtain rfl : vs = [] := List.length_eq_zero_iff.mp hr₀.1
    have F₄ := F₄.re (ρ' := [("count", .val (.ref l)), ("T", .str "\t"), ("S", .str " "), ("self", .val (.ref (dx + 1))), ("ws", .str T)]) (by kernel_rfl)
    have hno : ¬ Own env (dx + 1) := F.not_own_obj O hobj rfl
    refine .multi3 (.int 0) O F₄.noM ?_ trivial (.inl (by walk_at "kr")) (.inl (by walk_at "kr")) (.inl (by walk_at "kr")) fun s₅ F₅ st₅ => .at 4 rfl ?_
    · walk_at "ev"
    have F₅ := F₅.setM (Plus Ø l) fun b hb => hb.elim (fun z => z.elim) fun e => e ▸ not_back F₃.same.ext hl
    have F₅ := F₅.re (ρ' := ρW T dx 0 (l, ⟨[], 0, 0, 0⟩)) (by kernel_rfl)
    have hlX : ¬ Plus X dx l := fun z => by obtain ⟨o, e⟩ := F₃.live.live l z; exact hl o e
    have hld : dx ≠ l := fun e => hlX (.inr e.symm)
    have p₅ : s₅.heap.PlainList l ([] : List Value).toArray := by
      obtain ⟨n, hp⟩ := hp
      exact ⟨n, st₅.seq _ _ (fun z => z) hp ⟨_, _, rfl⟩⟩
    have d₅ : s₅.heap.get? dx = some (insD [⟨PyData.keyHash w.params "raw", .str "raw" tk₁, v₁⟩] 1) := by
      have := (st₄.kept dx _ (F₃.own dx (.inr rfl)) (fun z => z) ⟨d₃, solid_cls rfl⟩)
      exact (st₅.kept dx _ (F₄.own dx (.inl (.inr rfl))) (fun z => z) this).1
    have i₅ : Ins s₅.heap (dx + 1) 165 (insD [⟨PyData.keyHash w.params "raw", .str "raw" tk₁, v₁⟩] 1) := ⟨dx, st₅.kept _ _ hno (fun z => z) (st₄.kept _ _ hno (fun z => z) (st₃.kept _ _ hno (fun z => z) o₂)), d₅, solid_cls rfl⟩
    have i₅' : Sg s₅.heap (dx + 1) (instObj 165 dx) := st₅.kept _ _ hno (fun z => z) (st₄.kept _ _ hno (fun z => z) (st₃.kept _ _ hno (fun z => z) o₂))
    have hxl : dx + 1 ≠ l := fun e => hl _ (e ▸ st₃.kept _ _ hno (fun z => z) o₂)
    have after : ∀ s' l', Fm env (Plus (Plus X dx) l') (Plus Ø l') s s' (ρW T dx 0 (l', wsOf T)) → ¬ Plus X dx l' → (∃ vs, s'.heap.PlainList l' vs.toArray ∧ RdL (Plus X dx) s'.heap vs ((wsOf T).cnt.map .int)) →
        s'.heap.get? dx = some (insD [⟨PyData.keyHash w.params "raw", .str "raw" tk₁, v₁⟩] 1) → Sg s'.heap (dx + 1) (instObj 165 dx) →
        Run pwT w (A.deeper env) env ((stB (stM 10 1)).drop 5) (fun f s' => (match f with | .ret v => v | _ => .none) = .none ∧ WsAt w (wsOf T) s'.heap (dx + 1) dx ∧ Kp s s') E s' := by
      intro s₆ l' F₆ hnl ⟨vs, p₆, r₆⟩ d₆ o₆
      have hlen : (wsOf T).cnt.length < 2 ^ 21 := by have := wsGo_len (N := T.length) T.cps.toList ⟨[], 0, 0, 0⟩ (Nat.zero_le _) (by show 0 + T.cps.toList.length ≤ _; simp [Str.length]); unfold wsOf; omega
      generalize wsOf T = R at F₆ r₆ hlen
      unfold ρW at F₆
      have F₆ := F₆.lend (X₀ := Plus X dx) (M₀ := Ø) (x := "count") (fun b hb => .inl hb) (fun _ z => z.elim) (by kernel_rfl) p₆ r₆ hnl
      have F₆ := F₆.setM (Plus Ø dx) fun b hb => hb.elim (fun z => z.elim) fun e => by rw [e, hdx]; exact not_size
      have F₆ := F₆.sub (ρ' := [("self", .val (.ref (dx + 1))), ("count", .list (R.cnt.map .int)), ("nt", .int R.nt), ("n", .int R.n), ("b", .int R.b)]) (by walk_at "sub")
      refine .at 5 rfl ?_
      refine .setAttr (K := KT w.params) (C := 165) (es := _) (n := 1) (d := .int R.n) F₆ (.inr rfl) (.inr rfl) be.kind (by kernel_rfl) (by walk_at "rea") (by kernel_rfl) (TF.K (by walk_at "tf")) o₆ d₆ hKd (Nat.succ_ne_self _) (k_set _) (k_over _) (k_t2 _) (k_hasd _) (by kernel_rfl) (by simp) (fun v tk => by kernel_rfl) ?_ (by walk_at "kr") fun s₇ v₂ tk₂ F₇ st₇ r₇ d₇ K₇ o₇ => .at 6 rfl ?_
      · walk_at "ev"
      refine .setAttr (K := KT w.params) (C := 165) (es := _) (n := 2) (d := .int R.nt) F₇ (.inr rfl) (.inr rfl) be.kind (by kernel_rfl) (by walk_at "rea") (by kernel_rfl) (TF.K (by walk_at "tf")) o₇ d₇ hKd (Nat.succ_ne_self _) (k_set _) (k_over _) (k_t3 _) (k_hasd _) (by kernel_rfl) (by simp) (fun v tk => by kernel_rfl) ?_ (by walk_at "kr") fun s₈ v₃ tk₃ F₈ st₈ r₈ d₈ K₈ o₈ => .at 7 rfl ?_
      · walk_at "ev"
      refine .setAttr (K := KT w.params) (C := 165) (es := _) (n := 3) (d := .tup [.tup (R.cnt.map .int), .int R.b]) F₈ (.inr rfl) (.inr rfl) be.kind (by kernel_rfl) (by walk_at "rea") (by kernel_rfl) (TF.K (by walk_at "tf")) o₈ d₈ hKd (Nat.succ_ne_self _) (k_set _) (k_over _) (k_t4 _) (k_hasd _) (by kernel_rfl) (by simp) (fun v tk => by kernel_rfl) ?_ (by walk_at "kr") fun s₉ v₄ tk₄ F₉ st₉ r₉ d₉ K₉ o₉ => .at 8 rfl ?_
      · walk_at "ev"
      refine .setAttr (K := KT w.params) (C := 165) (es := _) (n := 4) (d := .bool (decide (R.cnt.length ≤ 1))) F₉ (.inr rfl) (.inr rfl) be.kind (by kernel_rfl) (by walk_at "rea") (by kernel_rfl) (TF.K (by walk_at "tf")) o₉ d₉ hKd (Nat.succ_ne_self _) (k_set _) (k_over _) (k_t5 _) (k_hasd _) (by kernel_rfl) (by simp) (fun v tk => by kernel_rfl) ?_ (by walk_at "kr") fun s₁₀ v₅ tk₅ F₁₀ st₁₀ r₁₀ d₁₀ K₁₀ o₁₀ => .stop (by rfl) ⟨rfl, ?_, F₁₀.same⟩
      · refine EV.cast (d := .bool (decide (((R.cnt.map Dat.int).length : Int) ≤ 1))) ?_ (by simp; omega)
        walk_at "ev"
      · refine ⟨fun i => if i = 1 then tk₁ else if i = 2 then tk₂ else if i = 3 then tk₃ else if i = 4 then tk₄ else tk₅, v₁, v₂, v₃, v₄, v₅, o₁₀, ⟨d₁₀, solid_cls rfl⟩, r₇.flat (d := .int R.n) trivial, r₈.flat (d := .int R.nt) trivial, ?_, r₁₀.flat (d := .bool _) trivial⟩
        exact (r₉.mono (st₁₀.seq.weak fun b hb => hb.elim (fun z => z.elim) .inr)).weak fun _ z => z.elim
    refine .forR (l, ⟨[], 0, 0, 0⟩) (fun r => Plus (Plus X dx) r.1) (fun r => Plus Ø r.1) (ρW T dx) (ExW w (Plus X dx) T dx l ⟨PyData.keyHash w.params "raw", .str "raw" tk₁, v₁⟩ s₅.heap) (fun r b z => z.elim (fun z => z.elim) .inr) O F₅ (.inl (by walk_at "kr")) (SrcW.str (x := T) hr'.handled ?_) ?_ ?_ ?_ ?_ ?_ ?_ (by subst henv; exact fun _ => rfl)
    · cases r₁ with
      | str _ tk =>
      have F₅' := F₅
      unfold ρW at F₅'
      refine EV.attr (C := 165) (v := .str T tk) (K := KT w.params) (x := dx + 1) ?_ (TF.K (by walk_at "tf")) i₅ rfl (k_ga _) (by kernel_rfl) rfl (.str _ _) (fun _ _ => rfl)
      walk_at "ev"
    · exact ⟨rfl, Nat.le_refl _, Nat.zero_le _, ⟨[], p₅, .nil⟩, .inl rfl, hlX, d₅⟩
    · intro i r s' b e z
      rcases z with z | rfl
      · exact .inl (.inl z)
      · rcases e.old with q | q
        · exact .inl (.inr q)
        · obtain ⟨vs, ⟨n, e1⟩, _⟩ := e.lst
          exact .inr ⟨q, _, _, _, e1, rfl⟩
    · intro i r s' b e z
      rcases z with z | rfl
      · exact z.elim
      · rcases e.old with q | q
        · exact .inl (.inr q)
        · exact .inr q
    · intro i r a b e k1 k2
      obtain ⟨vs, ⟨n, e1⟩, e2⟩ := e.lst
      exact ⟨e.go, e.b, e.len, ⟨vs, ⟨n, (k1 _ _ (.inr rfl) ⟨e1, solid_cls rfl⟩).1⟩, e2.mono (k2.weak fun _ z => z.elim)⟩, e.old, e.not, (k1 _ _ (.inl (.inr rfl)) ⟨e.dict, solid_cls rfl⟩).1⟩
    · intro i d r s₆ E' hdi F₆ e₆ sp₆
      obtain ⟨l', st⟩ := r
      obtain ⟨hi, rfl⟩ : i < T.cps.toList.length ∧ d = .str ⟨#[T.cps.toList.getD i 0]⟩ := by
        obtain ⟨h1, h2⟩ := List.getElem?_eq_some_iff.mp hdi
        simp only [List.length_map] at h1
        refine ⟨h1, ?_⟩
        rw [← h2, List.getElem_map, getD_at _ h1]
      have hgo := e₆.go
      have hdrop : T.cps.toList.drop i = T.cps.toList.getD i 0 :: T.cps.toList.drop (i + 1) := by
        rw [List.drop_eq_getElem_cons hi, getD_at _ hi]
      rw [hdrop] at hgo
      generalize T.cps.toList.getD i 0 = c at hgo F₆
      have F₆ := F₆.re (ρ' := ("ch", .str ⟨#[c]⟩) :: ρW T dx i (l', st)) (by kernel_rfl)
      unfold ρW at F₆
      have hiT : i < T.length := by simpa [Str.length] using hi
      have hb := e₆.b
      have hlen := e₆.len
      simp only at hb hlen
      refine .if F₆ (decide (Str.mk #[c] = (" " : Str))) ?_ fun s₇ k₇ F₇ => ?_
      · walk_at "tv"
      have E₇ : ∃ vs, s₇.heap.PlainList l' vs.toArray ∧ RdL (Plus X dx) s₇.heap vs (st.cnt.map .int) := by
        obtain ⟨vs, a, b⟩ := e₆.lst
        exact ⟨vs, plainExt a k₇.ext, b.ext k₇.ext⟩
      have d₇ : s₇.heap.get? dx = some (insD [⟨PyData.keyHash w.params "raw", .str "raw" tk₁, v₁⟩] 1) := k₇.ext.get e₆.dict (solid_cls rfl)
      have apl : ∀ b, Plus Ø l' b → ∀ o, ¬ Sg s.heap b o := fun b hb => hb.elim (fun z => z.elim) fun e => e ▸ F₆.apart l' (.inr (.inr rfl))
      have keepL : ∀ b, Stp env Ø s₇ b → ∃ vs, b.heap.PlainList l' vs.toArray ∧ RdL (Plus X dx) b.heap vs (st.cnt.map .int) := fun b q => by
        obtain ⟨vs, ⟨n, e1⟩, e2⟩ := E₇
        exact ⟨vs, ⟨n, q.seq _ _ (fun z => z) e1 ⟨_, _, rfl⟩⟩, e2.mono (q.seq.weak fun _ z => z.elim)⟩
      have keepD : ∀ b, Stp env Ø s₇ b → b.heap.get? dx = some (insD [⟨PyData.keyHash w.params "raw", .str "raw" tk₁, v₁⟩] 1) := fun b q => (q.kept dx _ (F₇.own dx (.inl (.inr rfl))) (fun z => z) ⟨d₇, solid_cls rfl⟩).1
      by_cases h32 : c = 32
      · rw [if_pos (by simpa [one_sp] using h32)]
        have hgo : wsGo (T.cps.toList.drop (i + 1)) ⟨st.cnt, st.b + 1, st.n + 1, st.nt⟩ = wsOf T := by
          rw [← hgo]; exact (if_pos h32).symm
        refine .assign (.int (st.n + 1 : Nat)) O F₇.noM ?_ (.inl (by walk_at "kr")) (by walk_at "kr") fun s₈ F₈ st₈ => ?_
        · walk_at "evc"
        refine .assign (.int (st.b + 1 : Nat)) O F₈ ?_ (.inl (by walk_at "kr")) (by walk_at "kr") fun s₉ F₉ st₉ => .nil (Run.nil ⟨(Stp.of k₇).trans ((st₈.trans st₉).weakM fun _ z => z.elim), (l', ⟨st.cnt, st.b + 1, st.n + 1, st.nt⟩), (F₉.setM (Plus Ø l') apl).sub ?_, hgo, by show st.b + 1 ≤ i + 1; omega, by show st.cnt.length ≤ i + 1 + 1; omega, keepL _ (st₈.trans st₉), e₆.old, e₆.not, keepD _ (st₈.trans st₉)⟩)
        · walk_at "evc"
        · unfold ρW
          walk_at "sub"
      · rw [if_neg (by simpa [one_sp] using h32)]
        refine .if F₇ (decide (Str.mk #[c] = ("\t" : Str))) ?_ fun s₈ k₈ F₈ => ?_
        · walk_at "tv"
        by_cases h9 : c = 9
        · rw [if_pos (by simpa [one_tab] using h9)]
          have hgo : wsGo (T.cps.toList.drop (i + 1)) ⟨bump st.cnt st.b, 0, st.n + 1, st.nt + 1⟩ = wsOf T := by
            rw [← hgo]; exact ((if_neg h32).trans (if_pos h9)).symm
          refine .assign (.int (st.n + 1 : Nat)) O F₈.noM ?_ (.inl (by walk_at "kr")) (by walk_at "kr") fun s₉ F₉ st₉ => ?_
          · walk_at "evc"
          refine .assign (.int (st.nt + 1 : Nat)) O F₉ ?_ (.inl (by walk_at "kr")) (by walk_at "kr") fun s₁₀ F₁₀ st₁₀ => ?_
          · walk_at "evc"
          have ss : Stp env Ø s₇ s₁₀ := ((Stp.of k₈).trans st₉).trans st₁₀
          have d₁₀ := keepD _ ss
          obtain ⟨vs, p₁₀, r₁₀⟩ := keepL _ ss
          have sm : Stp env (Plus Ø l') s₆ s₁₀ := (Stp.of k₇).trans (ss.weakM fun _ z => z.elim)
          have F₁₀ := F₁₀.sub (ρ' := [("nt", .int (st.nt + 1 : Nat)), ("n", .int (st.n + 1 : Nat)), ("b", .int st.b), ("count", .val (.ref l')), ("T", .str "\t"), ("S", .str " "), ("self", .val (.ref (dx + 1))), ("ws", .str T)]) (by walk_at "sub")
          have L := F₁₀.loc.lend (X₀ := Plus X dx) (x := "count") (fun b hb => .inl hb) (by kernel_rfl) p₁₀ r₁₀ e₆.not
          have a₁₀ := F₁₀
          refine .ifJ (fun s' => ∃ l'' vs', Fm env (Plus (Plus X dx) l'') Ø s s' [("count", .val (.ref l'')), ("nt", .int (st.nt + 1 : Nat)), ("n", .int (st.n + 1 : Nat)), ("b", .int st.b), ("T", .str "\t"), ("S", .str " "), ("self", .val (.ref (dx + 1))), ("ws", .str T)] ∧
              Stp env (Plus Ø l') s₆ s' ∧ (l'' = l' ∨ ∀ o, ¬ Sg s₁₀.heap l'' o) ∧ s'.heap.PlainList l'' vs'.toArray ∧ RdL (Plus X dx) s'.heap vs' ((if st.cnt.length ≤ st.b then st.cnt ++ List.replicate (st.b - st.cnt.length + 1) 0 else st.cnt).map .int) ∧ s'.heap.get? dx = some (insD [⟨PyData.keyHash w.params "raw", .str "raw" tk₁, v₁⟩] 1)) F₁₀ (decide (st.cnt.length ≤ st.b)) ?_ (fun hc s₁₁ k₁₁ F₁₁ => ?_) (fun hc s₁₁ k₁₁ F₁₁ => ?_) fun s₁₂ J => ?_
          · refine TV.cast (TV.region (X₀ := Plus X dx) (b := decide (((st.cnt.map Dat.int).length : Int) ≤ (st.b : Int))) ?_ fun b hb => .inl hb) (by simp)
            walk_at "tv"
          · have hc := of_decide_eq_true hc
            have p₁₁ := plainExt p₁₀ k₁₁.ext
            have r₁₁ := r₁₀.ext k₁₁.ext
            have F₁₁' := F₁₁.lend (X₀ := Plus X dx) (M₀ := Ø) (x := "count") (fun b hb => .inl hb) (fun _ z => z) (by kernel_rfl) p₁₁ r₁₁ e₆.not
            clear L a₁₀
            refine .own O F₁₁' (EVN.add (ds := st.cnt.map .int) (es := (List.replicate (st.b - st.cnt.length + 1) 0).map .int) ?_ ?_ ?_) (.inl (by walk_at "kr")) (by walk_at "kr") fun s₁₂ l₂ vs₂ F₁₂ st₁₂ hl₂ p₁₂ r₁₂ => .nil ⟨rfl, l₂, vs₂, ?_, ?_, ?_, p₁₂, ?_, ?_⟩
            · walk_at "ev"
            · with_reducible apply EV.cast
              · with_reducible apply EV.bin (a := .list [.int 0])
                · walk_at "ev"
                · walk_at "ev"
                · refine Bin.mulL ?_ ?_ ?_
                  · simp only [List.length_map]; omega
                  · simp only [List.length_map]; omega
                  · simp only [List.length_map, List.length_cons, List.length_nil]; omega
              · rw [show ((st.b : Int) - ((st.cnt.map Dat.int).length : Int) + 1).toNat = st.b - st.cnt.length + 1 by simp only [List.length_map]; omega, rep_zero]
            · simp only [List.length_map, List.length_replicate, szl]; omega
            · exact F₁₂.noM.sub (by walk_at "sub")
            · exact (sm.trans (Stp.of k₁₁)).trans (st₁₂.weakM fun _ z => z.elim)
            · exact .inr (not_back k₁₁.ext hl₂)
            · rw [if_pos hc, List.map_append]; exact r₁₂.weak fun b hb => .inl hb
            · exact (st₁₂.kept dx _ (F₁₁.own dx (.inl (.inr rfl))) (fun z => z) ⟨k₁₁.ext.get d₁₀ (solid_cls rfl), solid_cls rfl⟩).1
          · have hc := of_decide_eq_false hc
            refine .nil ⟨rfl, l', vs, F₁₁.sub (by walk_at "sub"), sm.trans (Stp.of k₁₁), .inl rfl, plainExt p₁₀ k₁₁.ext, by rw [if_neg hc]; exact r₁₀.ext k₁₁.ext, k₁₁.ext.get d₁₀ (solid_cls rfl)⟩
          · obtain ⟨l₂, vs₂, F₁₂, st₁₂, o₁₂, p₁₂, r₁₂, d₁₂⟩ := J
            have hl2 : ∀ o, ¬ Sg s.heap l₂ o := by
              rcases o₁₂ with rfl | q
              · exact apl _ (.inr rfl)
              · exact not_back a₁₀.same.ext q
            have hn2 : ¬ Plus X dx l₂ := by
              rcases o₁₂ with rfl | q
              · exact e₆.not
              · exact fun z => by obtain ⟨o, e⟩ := a₁₀.live.live l₂ (.inl z); exact q o e
            have hfr : ∀ b, Plus Ø l₂ b → ∀ o, ¬ Sg s.heap b o := fun b hb => hb.elim (fun z => z.elim) fun e => e ▸ hl2
            have F₁₃ := F₁₂.setM (Plus Ø l₂) hfr
            have L₂ := F₁₂.loc.lend (X₀ := Plus X dx) (x := "count") (fun b hb => .inl hb) (by kernel_rfl) p₁₂ r₁₂ hn2
            have hcl : st.b < (if st.cnt.length ≤ st.b then st.cnt ++ List.replicate (st.b - st.cnt.length + 1) 0 else st.cnt).length := by
              split
              · simp only [List.length_append, List.length_replicate]; omega
              · omega
            have hbump : bump st.cnt st.b = (if st.cnt.length ≤ st.b then st.cnt ++ List.replicate (st.b - st.cnt.length + 1) 0 else st.cnt).set st.b ((if st.cnt.length ≤ st.b then st.cnt ++ List.replicate (st.b - st.cnt.length + 1) 0 else st.cnt).getD st.b 0 + 1) := rfl
            have hcl2 : (if st.cnt.length ≤ st.b then st.cnt ++ List.replicate (st.b - st.cnt.length + 1) 0 else st.cnt).length ≤ i + 2 := by
              split
              · simp only [List.length_append, List.length_replicate]; omega
              · omega
            generalize (if st.cnt.length ≤ st.b then st.cnt ++ List.replicate (st.b - st.cnt.length + 1) 0 else st.cnt) = cs at hcl hbump hcl2 r₁₂ L₂
            have g := get_int (xs := cs) (i := (st.b : Int)) (by omega) (by omega)
            refine .setItem F₁₃ (.inr rfl) (.inr rfl) be.kind (by kernel_rfl) (by walk_at "rea") (by kernel_rfl) p₁₂ (EV.flat (X₀ := Plus X dx) (d := .int (cs.getD st.b 0 + 1)) ?_ trivial fun b hb => .inl hb) (i := (st.b : Int)) ?_ (by omega) (by omega) (by have := r₁₂.1; simp only [List.length_map] at this; omega) (by walk_at "kr") fun s₁₃ v F₁₄ st₁₄ rv p₁₃ => ?_
            · clear L
              walk_at "evc"
            · walk_at "ev"
            refine .assign (.int (0 : Nat)) O F₁₄.noM ?_ (.inl (by walk_at "kr")) (by walk_at "kr") fun s₁₄ F₁₅ st₁₅ => .nil (Run.nil (Run.nil ⟨?_, (l₂, ⟨bump st.cnt st.b, 0, st.n + 1, st.nt + 1⟩), (F₁₅.setM (Plus Ø l₂) hfr).sub ?_, hgo, Nat.zero_le _, ?_, ⟨vs₂.set st.b v, ?_, ?_⟩, ?_, hn2, ?_⟩))
            · walk_at "evc"
            · have sw := st₁₄.trans (st₁₅.weakM (M' := Plus Ø l₂) fun _ z => z.elim)
              rcases o₁₂ with rfl | q
              · exact st₁₂.trans sw
              · exact Stp.thenNew st₁₂ sw (fun _ z => z.elim) (fun o e => q o (ss.kept _ _ (F₁₃.own _ (.inr rfl)) (fun z => z) (k₇.ext.kept _ _ e)))
            · unfold ρW
              walk_at "sub"
            · show (bump st.cnt st.b).length ≤ i + 1 + 1
              rw [hbump, List.length_set]; omega
            · obtain ⟨n, e1⟩ := p₁₃
              exact ⟨n, st₁₅.seq _ _ (fun z => z) e1 ⟨_, _, rfl⟩⟩
            · show RdL _ _ _ ((bump st.cnt st.b).map .int)
              rw [hbump, List.map_set]
              exact RdL.set r₁₂.ints (rv.flat (d := .int (cs.getD st.b 0 + 1)) trivial) _
            · rcases o₁₂ with rfl | q
              · exact e₆.old
              · refine Classical.or_iff_not_imp_left.mpr fun hne o e => ?_
                exact q _ (ss.kept _ _ (F₁₃.own _ (.inr rfl)) (fun z => z) (k₇.ext.kept _ _ (sp₆.kept _ _ (F₁₃.own _ (.inr rfl)) (fun z => z.elim (fun z => z) hne) e)))
            · have e1 : s₁₃.heap.get? dx = _ := (st₁₄.kept dx _ (F₁₃.own dx (.inl (.inr rfl))) (fun z => z.elim (fun z => z) fun z => hn2 (.inr z.symm)) ⟨d₁₂, solid_cls rfl⟩).1
              exact (st₁₅.kept dx _ (F₁₃.own dx (.inl (.inr rfl))) (fun z => z) ⟨e1, solid_cls rfl⟩).1
        · rw [if_neg (by simpa [one_tab] using h9)]
          have hgo : st = wsOf T := by rw [← hgo]; exact ((if_neg h32).trans (if_neg h9)).symm
          have sk : Stp env Ø s₇ s₈ := Stp.of k₈
          refine .brk ⟨((Stp.of k₇).trans sk).weakM fun _ z => z.elim, fun st₈ => after s₈ l' (F₈.sub ?_) e₆.not ?_ (keepD _ sk) (st₈.kept _ _ hno (fun z => z.elim (fun z => z) hxl) i₅')⟩
          · rw [← hgo]
            unfold ρW
            walk_at "sub"
          · rw [← hgo]; exact keepL _ sk
    · intro s₆ r F₆ e₆ st₆
      obtain ⟨l', st⟩ := r
      have hgo : st = wsOf T := by
        have e := e₆.go
        rw [List.drop_eq_nil_of_le (by simp)] at e
        exact e
      exact after s₆ l' (hgo ▸ F₆) e₆.not (hgo ▸ e₆.lst) e₆.dict (st₆.kept _ _ hno (fun z => z.elim (fun z => z) hxl) i₅')
end Mine
end
end
section
open PySem PySem.W PyProof.Rows
set_option Elab.async false
set_option linter.unusedVariables false
set_option maxRecDepth 100000
set_option maxHeartbeats 1000000
noncomputable section
namespace Mine
variable {w : World} {A : Around} {X : Addr → Prop} {h : Heap} {env : Env}
theorem FnH.flat {prog : Program} {f : Value} {ds : List Dat} {d : Dat} (x : FnH prog w A Ø h f ds d) (hd : d.flat) : FnH prog w A X h f ds d := fun s E vs k r =>
  wpAny_mono (x s E vs ⟨k.ext, .none k.live.tab⟩ (r.weak fun _ z => z.elim)) (fun v s' q => ⟨q.1.flat hd, q.2⟩) fun _ _ e => e
section
variable {R : WS} {x dx : Addr} {o : Expr} {pos apos : Pos}
theorem ws_n (t : TF w h) (q : WsAt w R h x dx) (ho : EV pwT w A env X h o (.val (.ref x))) (hb : attributeBase o "n" env (eval o env) = eval o env) (ht : ∀ o' r, letTemporaryGo o o' r = pure ()) : EV pwT w A env X h (.Attribute o "n" pos) (.int R.n) := by
  obtain ⟨tk, v1, v2, v3, v4, v5, a1, a2, a3, a4, a5, a6⟩ := q
  cases a3 with
  | int _ tt => exact EV.attr (v := .int _ tt) ho t.K ⟨dx, a1, a2⟩ hb (k_ga _) (by kernel_rfl) rfl (.int _ _) ht
theorem ws_nt (t : TF w h) (q : WsAt w R h x dx) (ho : EV pwT w A env X h o (.val (.ref x))) (hb : attributeBase o "nt" env (eval o env) = eval o env) (ht : ∀ o' r, letTemporaryGo o o' r = pure ()) : EV pwT w A env X h (.Attribute o "nt" pos) (.int R.nt) := by
  obtain ⟨tk, v1, v2, v3, v4, v5, a1, a2, a3, a4, a5, a6⟩ := q
  cases a4 with
  | int _ tt => exact EV.attr (v := .int _ tt) ho t.K ⟨dx, a1, a2⟩ hb (k_ga _) (by kernel_rfl) rfl (.int _ _) ht
theorem ws_simple (t : TF w h) (q : WsAt w R h x dx) (ho : EV pwT w A env X h o (.val (.ref x))) (hb : attributeBase o "is_simple" env (eval o env) = eval o env) (ht : ∀ o' r, letTemporaryGo o o' r = pure ()) : EV pwT w A env X h (.Attribute o "is_simple" pos) (.bool (decide (R.cnt.length ≤ 1))) := by
  obtain ⟨tk, v1, v2, v3, v4, v5, a1, a2, a3, a4, a5, a6⟩ := q
  cases a6 with
  | bool _ => exact EV.attr (v := .bool _) ho t.K ⟨dx, a1, a2⟩ hb (k_ga _) (by kernel_rfl) rfl (.bool _) ht
theorem ws_norm (t : TF w h) (q : WsAt w R h x dx) (ho : EV pwT w A env Ø h o (.val (.ref x))) (hb : attributeBase o "norm" env (eval o env) = eval o env) (ht : ∀ o' r, letTemporaryGo o o' r = pure ()) : EV pwT w A env Ø h (.Attribute o "norm" pos) (.tup [.tup (R.cnt.map .int), .int R.b]) := by
  obtain ⟨tk, v1, v2, v3, v4, v5, a1, a2, a3, a4, a5, a6⟩ := q
  obtain ⟨a, vs, rfl, _⟩ := id a5.tup_inv
  exact EV.attr ho t.K ⟨dx, a1, a2⟩ hb (k_ga _) (by kernel_rfl) rfl a5 ht
end
noncomputable def lrF (R : WS) : Int := max ((R.cnt.length : Int) - 1) R.b
theorem longest_ok (t : TF w h) (hr : Rm A 6) {R : WS} {x dx : Addr} (q : WsAt w R h x dx) (hn : R.cnt.length < 2 ^ 21) : FnH pwT w A X h (.ref 127) [.val (.ref x)] (.int (lrF R)) := by
  refine FnH.flat ?_ trivial
  have hd : IsDef h 127 _ := t.fn (o := o_10_127 w.params) (by kernel_rfl) (by decide +kernel) rfl
  have hc : CodeS h (.ref 126) (Str.ofString "Whitespace.longest_run_of_spaces") := t.code (o := o_10_126 w.params) (by kernel_rfl) (by decide +kernel) rfl ⟨_, _, rfl, rfl⟩
  refine FnH.introR (xs := ["self"]) hd hr.room t.lim hc rfl rfl (by decide) ?_ rfl ?_ ?_ (no_cells (ns := (stS (stM 10 2)).names) (by intro n; kernel_rfl)) rfl rfl rfl
  · intro s vs _ hl
    match vs, hl with
    | [v], _ => kernel_rfl
  · intro y hy n
    rw [List.mem_singleton.mp hy]
    exact .inl (by kernel_rfl)
  · intro s s₁ E env henv k O F
    have K : ∀ y, y ∈ (["self", "count", "trailing"] : List Str) → env.kindOf y = some .local := by
      subst henv; show ∀ y ∈ (["self", "count", "trailing"] : List Str), (stS (stM 10 2)).names.lookup y = some .local; decide +kernel
    have be : Bse env := henv ▸ .call rfl rfl rfl
    have hr' := hr.deeper env
    have F := F.re (ρ' := [("self", .val (.ref x))]) rfl
    refine .from (.at 0 rfl ?_)
    refine .unpack ["count", "trailing"] (.tup [.tup (R.cnt.map .int), .int R.b]) O F ?_ (Asg.tup hr.handled rfl rfl) (by decide) (sto (fun x hx => K x (by revert x; decide))) (by walk_at "kr") (by walk_at "kr") fun s₂ F₂ st₂ => .at 1 rfl ?_
    · refine ws_norm (by walk_at "tf") (q.ext (k.ext.trans F.same.ext)) ?_ rfl fun _ _ => rfl
      walk_at "ev"
    have F₂ := F₂.re (ρ' := [("count", .tup (R.cnt.map .int)), ("trailing", .int R.b), ("self", .val (.ref x))]) (by kernel_rfl)
    refine .ret (.int (lrF R)) F₂ ?_ fun v s' r k₁ _ => ⟨r, k₁⟩
    refine EV.cast (d := .int (max (((R.cnt.map Dat.int).length : Int) - 1) R.b)) ?_ (by rw [List.length_map]; rfl)
    walk_at "ev"
noncomputable def ilP (cnt : List Int) (ts : Nat) : Nat → Int
  | 0 => 0
  | k + 1 => ilP cnt ts k + (((ts + k) / ts : Nat) : Int) * cnt.getD (ts + k) 0
noncomputable def lvF (R : WS) (ts : Nat) : Int := R.b + ts * (ilP R.cnt ts (R.cnt.length - ts) + R.nt)
theorem mulok_nat {a : Nat} (b : Int) (h : a < 2 ^ 63) : IntMulOk (a : Int) b := IntMulOk.of_left (intBits_le_64 (by omega) (by omega))
theorem fdiv_nat (a b : Nat) : (a : Int).fdiv (b : Int) = ((a / b : Nat) : Int) := by
  rw [Int.fdiv_eq_ediv_of_nonneg _ (by omega)]; rfl
theorem fmod_nat (a b : Nat) : (a : Int).fmod (b : Int) = ((a % b : Nat) : Int) := by
  rw [Int.fmod_eq_emod_of_nonneg _ (by omega)]; rfl
theorem indent_ok (t : TF w h) (hr : Rm A 6) {R : WS} {x dx : Addr} (q : WsAt w R h x dx) (hn : R.cnt.length < 2 ^ 21) {ts : Nat} (h0 : 0 < ts) (h1 : ts < 2 ^ 20) : FnH pwT w A X h (.ref 134) [.val (.ref x), .int ts] (.int (lvF R ts)) := by
  refine FnH.flat ?_ trivial
  have hd : IsDef h 134 _ := t.fn (o := o_10_134 w.params) (by kernel_rfl) (by decide +kernel) rfl
  have hc : CodeS h (.ref 133) (Str.ofString "Whitespace.indent_level") := t.code (o := o_10_133 w.params) (by kernel_rfl) (by decide +kernel) rfl ⟨_, _, rfl, rfl⟩
  refine FnH.introR (xs := ["self", "tabsize"]) hd hr.room t.lim hc rfl rfl (by decide) ?_ rfl ?_ ?_ (no_cells (ns := (stS (stM 10 3)).names) (by intro n; kernel_rfl)) rfl rfl rfl
  · intro s vs _ hl
    match vs, hl with
    | [v, u], _ => kernel_rfl
  · intro y hy n
    have : ∀ y ∈ (["self", "tabsize"] : List Str), (stS (stM 10 3)).names.lookup y = some .local := by decide +kernel
    exact .inl (this y hy)
  · intro s s₁ E env henv k O F
    have K : ∀ y, y ∈ (["self", "tabsize", "count", "trailing", "il", "i"] : List Str) → env.kindOf y = some .local := by
      subst henv; show ∀ y ∈ (["self", "tabsize", "count", "trailing", "il", "i"] : List Str), (stS (stM 10 3)).names.lookup y = some .local; decide +kernel
    have be : Bse env := henv ▸ .call rfl rfl rfl
    have hr' := hr.deeper env
    have F := F.re (ρ' := [("self", .val (.ref x)), ("tabsize", .int ts)]) rfl
    refine .from (.at 0 rfl ?_)
    refine .unpack ["count", "trailing"] (.tup [.tup (R.cnt.map .int), .int R.b]) O F ?_ (Asg.tup hr.handled rfl rfl) (by decide) (sto (fun x hx => K x (by revert x; decide))) (by walk_at "kr") (by walk_at "kr") fun s₂ F₂ st₂ => .at 1 rfl ?_
    · refine ws_norm (by walk_at "tf") (q.ext (k.ext.trans F.same.ext)) ?_ rfl fun _ _ => rfl
      walk_at "ev"
    have F₂ := F₂.re (ρ' := [("count", .tup (R.cnt.map .int)), ("trailing", .int R.b), ("self", .val (.ref x)), ("tabsize", .int ts)]) (by kernel_rfl)
    refine .assign (.int (ilP R.cnt ts 0)) O F₂ ?_ (.inl (by walk_at "kr")) (by walk_at "kr") fun s₃ F₃ st₃ => .at 2 rfl ?_
    · walk_at "evc"
    have hln : ((R.cnt.map Dat.int).length : Int) = R.cnt.length := by simp
    refine .for (ds := (List.range (((R.cnt.map Dat.int).length : Int) - (ts : Int)).toNat).map fun i : Nat => Dat.int ((ts : Int) + (i : Int))) (fun i => [("il", .int (ilP R.cnt ts i)), ("count", .tup (R.cnt.map .int)), ("trailing", .int R.b), ("self", .val (.ref x)), ("tabsize", .int ts)]) (fun _ _ => True) (fun _ z => z.elim) O (F₃.sub (by walk_at "sub")) (.inl (by walk_at "kr")) ?_ trivial (fun _ _ _ _ _ _ => trivial) ?_ ?_ (by subst henv; exact fun _ => rfl)
    · refine wRange2 (by walk_at "tf") be hr'.handled (by walk_at "kr") ?_ ?_ (small_one (by omega) (by omega) (by omega) (by omega)) rfl rfl
      · walk_at "ev"
      · walk_at "ev"
    · intro i d s₄ E' hdi F₄ _
      obtain ⟨hi, rfl⟩ : i < R.cnt.length - ts ∧ d = .int ((ts + i : Nat) : Int) := by
        obtain ⟨h1, h2⟩ := List.getElem?_eq_some_iff.mp hdi
        simp only [List.length_map, List.length_range] at h1
        refine ⟨by omega, ?_⟩
        rw [← h2]; simp
      have g := get_int (xs := R.cnt) (i := ((ts + i : Nat) : Int)) (by omega) (by omega)
      rw [Int.toNat_natCast] at g
      have fd : ((ts + i : Nat) : Int).fdiv (ts : Int) = (((ts + i) / ts : Nat) : Int) := fdiv_nat _ _
      have hle : (ts + i) / ts ≤ ts + i := Nat.div_le_self _ _
      refine .assign (.int (ilP R.cnt ts (i + 1))) O F₄ ?_ (.inl (by walk_at "kr")) (by walk_at "kr") fun s₅ F₅ st₅ => .nil ⟨st₅, F₅.sub (by walk_at "sub"), trivial⟩
      with_reducible apply EV.bin (b := .int ((((ts + i) / ts : Nat) : Int) * R.cnt.getD (ts + i) 0))
      · walk_at "ev"
      · with_reducible apply EV.bin (a := .int (((ts + i) / ts : Nat) : Int)) (b := .int (R.cnt.getD (ts + i) 0))
        · rw [← fd]
          with_reducible apply EV.bin
          · walk_at "ev"
          · walk_at "ev"
          · exact Bin.divI (by omega) (PyProof.noPylong_small (by omega))
        · with_reducible apply EV.sub (a := .tup (R.cnt.map .int)) (b := .int ((ts + i : Nat) : Int))
          · walk_at "ev"
          · walk_at "ev"
          · exact Itm.tup (by omega) (by omega) g
        · exact Bin.mulI (mulok_nat _ (by omega))
      · exact Bin.addI
    · intro s₄ F₄ _ _
      have e : ((List.range (((R.cnt.map Dat.int).length : Int) - (ts : Int)).toNat).map fun i : Nat => Dat.int ((ts : Int) + (i : Int))).length = R.cnt.length - ts := by simp
      rw [e] at F₄
      refine .at 3 rfl ?_
      refine .ret (.int (lvF R ts)) F₄ ?_ fun v s' r k₁ _ => ⟨r, k₁⟩
      have hws := q.ext (k.ext.trans F₄.same.ext)
      have e2 : R.cnt.length - ts = (R.cnt.length - ts) := rfl
      with_reducible apply EV.cast
      · with_reducible apply EV.bin
        · walk_at "ev"
        · with_reducible apply EV.bin
          · walk_at "ev"
          · with_reducible apply EV.bin
            · walk_at "ev"
            · exact ws_nt (by walk_at "tf") hws (by walk_at "ev") rfl fun _ _ => rfl
            · exact Bin.addI
          · exact Bin.mulI (mulok_nat _ (by omega))
        · exact Bin.addI
      · rfl
end Mine
end
end
section
open PySem PySem.W PyProof.Rows
set_option Elab.async false
set_option linter.unusedVariables false
set_option maxRecDepth 100000
namespace Mine
noncomputable def jb (J : List Bool) : Nat → Bool
  | 0 => false
  | k + 1 => J.getD k false
noncomputable def rowsG (j : Nat → Bool) : Nat → List Int
  | 0 => []
  | k + 1 => if j k then pickL none (some (-1)) none (rowsG j k) ++ [(rowsG j k).getD ((rowsG j k).length - 1) 0 + 1] else rowsG j k ++ [1]
theorem pick_ft {α : Type} (l : List α) : ∀ (m a : Nat), ((List.range m).map fun k => a + k).filterMap (l[·]?) = (l.drop a).take m
  | 0, a => by simp
  | m + 1, a => by
    rw [List.range_succ, List.map_append, List.filterMap_append, pick_ft l m a, List.take_add_one, List.getElem?_drop]
    cases e : l[a + m]? <;> simp [e]
theorem sliceRange_nat (a b : Nat) : sliceRange (a : Int) (b : Int) 1 = (List.range (b - a)).map fun k => a + k := by
  unfold sliceRange
  simp only [show (1 : Int) > 0 by decide, if_true, Int.ediv_one]
  split
  · rw [show (((b : Int) - a + 1 - 1).toNat) = b - a by omega]
    refine List.map_congr_left fun k _ => ?_
    omega
  · rw [show b - a = 0 by omega]; rfl
theorem pick_to {α : Type} (l : List α) (t : Nat) : pickL none (some (t : Int)) none l = l.take t := by
  unfold pickL picks
  have e : sliceBounds none (some (t : Int)) none l.length = (((0 : Nat) : Int), ((min t l.length : Nat) : Int), 1) := by
    simp only [sliceBounds, Option.getD_none, show (1 : Int) > 0 by decide, if_true, show ¬ ((t : Int) < 0) by omega, if_false, Prod.mk.injEq, and_true]
    omega
  rw [e]
  dsimp only
  rw [sliceRange_nat, pick_ft, List.drop_zero, Nat.sub_zero]
  rcases Nat.le_total t l.length with h | h
  · rw [Nat.min_eq_left h]
  · rw [Nat.min_eq_right h, List.take_of_length_le (Nat.le_refl _), List.take_of_length_le h]
noncomputable def chS (n : Nat) : List Bool → List Int → List Int
  | [], l => l
  | b :: bs, l => chS n bs (if b then (minL l + 1) :: l.take (n - 1) else (minL l + 1) :: minL l :: List.replicate (n - 2) 99)
noncomputable def piS (n : Nat) : List Bool → List Int → List Int
  | [], l => l
  | b :: bs, l => piS n bs (if b then (minL l + 1) :: l.take (n - 2) else minL l :: List.replicate (n - 2) 99)
theorem chS_snoc (n : Nat) (b : Bool) : ∀ (bs : List Bool) (l : List Int), chS n (bs ++ [b]) l = if b then (minL (chS n bs l) + 1) :: (chS n bs l).take (n - 1) else (minL (chS n bs l) + 1) :: minL (chS n bs l) :: List.replicate (n - 2) 99
  | [], l => rfl
  | c :: bs, l => chS_snoc n b bs _
theorem piS_snoc (n : Nat) (b : Bool) : ∀ (bs : List Bool) (l : List Int), piS n (bs ++ [b]) l = if b then (minL (piS n bs l) + 1) :: (piS n bs l).take (n - 2) else minL (piS n bs l) :: List.replicate (n - 2) 99
  | [], l => rfl
  | c :: bs, l => piS_snoc n b bs _
theorem chF_S (x : Str) {m : Nat} (hm : 2 ≤ m) : ∀ k, chF x m k = chS m ((List.range k).map (jn x)) (0 :: List.replicate (m - 1) 99)
  | 0 => rfl
  | k + 1 => by
    rw [List.range_succ, List.map_append, List.map_singleton, chS_snoc, ← chF_S x hm k]
    show (if jn x k then (minL (chF x m k) + 1) :: pickL none (some ((m : Int) - 1)) none (chF x m k) else _) = _
    rw [show (m : Int) - 1 = ((m - 1 : Nat) : Int) by omega, pick_to]
theorem piF_S (x : Str) {m : Nat} (hm : 2 ≤ m) : ∀ k, piF x m k = piS m ((List.range k).map (jn x)) (0 :: List.replicate (m - 2) 99)
  | 0 => rfl
  | k + 1 => by
    rw [List.range_succ, List.map_append, List.map_singleton, piS_snoc, ← piF_S x hm k]
    show (if jn x k then (minL (piF x m k) + 1) :: pickL none (some ((m : Int) - 2)) none (piF x m k) else _) = _
    rw [show (m : Int) - 2 = ((m - 2 : Nat) : Int) by omega, pick_to]
theorem range_jb (J : List Bool) : (List.range (J.length + 1)).map (jb J) = false :: J := by
  rw [List.range_succ_eq_map, List.map_cons, List.map_map]
  congr 1
  refine List.ext_getElem (by simp) fun i h1 h2 => ?_
  simp only [List.getElem_map, List.getElem_range, Function.comp_apply]
  show J.getD i false = _
  rw [getD_at _ h2]
noncomputable def chG (J : List Bool) (s : Nat) : List Int := chS s (false :: J) (0 :: List.replicate (s - 1) 99)
noncomputable def piG (J : List Bool) (s : Nat) : List Int := piS s (false :: J) (0 :: List.replicate (s - 2) 99)
theorem rowsF_G (x : Str) (j : Nat → Bool) : ∀ n, (∀ k < n, jn x k = j k) → rowsF x n = rowsG j n
  | 0, _ => rfl
  | n + 1, h => by
    unfold rowsF rowsG
    rw [rowsF_G x j n fun k hk => h k (by omega), h n (by omega)]
noncomputable def maxL : List Int → Int
  | [] => 0
  | [a] => a
  | a :: r => max a (maxL r)
theorem maxL_is : ∀ {l : List Int}, 0 < l.length → IsMax l (maxL l)
  | [a], _ => ⟨List.mem_singleton.mpr rfl, fun x hx => by rw [List.mem_singleton.mp hx]; exact Int.le_refl _⟩
  | a :: b :: r, _ => by
    obtain ⟨h1, h2⟩ := maxL_is (l := b :: r) (by simp)
    show IsMax (a :: b :: r) (max a (maxL (b :: r)))
    refine ⟨?_, fun x hx => ?_⟩
    · rcases Int.le_total a (maxL (b :: r)) with h | h
      · rw [Int.max_eq_right h]; exact List.mem_cons_of_mem _ h1
      · rw [Int.max_eq_left h]; exact List.mem_cons_self
    · rcases List.mem_cons.mp hx with rfl | hx
      · exact Int.le_max_left _ _
      · exact Int.le_trans (h2 x hx) (Int.le_max_right _ _)
noncomputable def nJ (J : List Bool) : Nat := J.length + 1
noncomputable def RJ (J : List Bool) : List Int := rowsG (jb J) (nJ J)
noncomputable def mJ (J : List Bool) : Int := maxL (RJ J)
noncomputable def szJ (J : List Bool) : List Nat := (List.range (mJ J).toNat).map (2 + ·)
noncomputable def nearC (J : List Bool) : List Nat := 32 :: (J.map fun b => if b then [32] else [9, 32]).flatten ++ [120, 32, 9]
noncomputable def farC (J : List Bool) : List Nat := (J.map fun b => if b then [32] else [9]).flatten ++ [120, 32, 9]
noncomputable def nW (J : List Bool) : WS := wsGo (nearC J) ⟨[], 0, 0, 0⟩
noncomputable def fW (J : List Bool) : WS := wsGo (farC J) ⟨[], 0, 0, 0⟩
noncomputable def chJ (J : List Bool) : List Int := (szJ J).map fun s => minL (chG J s)
noncomputable def piJ (J : List Bool) : List Int := (szJ J).map fun s => minL (piG J s)
noncomputable def wideJ (J : List Bool) : List Int := (szJ J).map fun s => lvF (nW J) s
noncomputable def slimJ (J : List Bool) : List Int := (szJ J).map fun s => lvF (fW J) (s - 1)
noncomputable def lastJ (J : List Bool) : Int := (RJ J).getD ((RJ J).length - 1) 0
noncomputable def stJ (J : List Bool) : List Nat := pickL none (some (-1)) none (szJ J)
noncomputable def gN (J : List Bool) (s : Nat) : Int := (nW J).nt - (lvF (nW J) s).fdiv s
noncomputable def gF (J : List Bool) (s : Nat) : Int := (fW J).nt - (lvF (fW J) (s - 1)).fdiv ((s : Int) - 1)
noncomputable def cgJ (J : List Bool) : List Int := ((stJ J).zip (wideJ J)).map fun p => (nW J).nt - p.2.fdiv p.1
noncomputable def ptJ (J : List Bool) : List Int := ((stJ J).zip (slimJ J)).map fun p => (fW J).nt - p.2.fdiv ((p.1 : Int) - 1)
noncomputable def fitJ (J : List Bool) (costs : List Int) (k : Nat) : List Int := (((szJ J).zip costs).filter fun p => decide ((p.2 : Int) ≤ (k : Int))).map fun p => (p.1 : Int)
noncomputable def plJ (J : List Bool) (k : Nat) : List Int := [minL (fitJ J (chJ J) k) - 2, minL (fitJ J (piJ J) k) - 2]
noncomputable def fdJ (J : List Bool) (k : Nat) : List Int :=
  [(halve (fun i => decide (gN J ((stJ J).getD i 0) < -(k : Int))) (stJ J).length 0 (stJ J).length : Nat), (halve (fun i => decide ((ptJ J).getD i 0 < -(k : Int))) (ptJ J).length 0 (ptJ J).length : Nat),
   (halve (fun i => !decide (-(k : Int) - 1 < (cgJ J).getD i 0)) (cgJ J).length 0 (cgJ J).length : Nat), (halve (fun i => !decide (-(k : Int) - 1 < gF J ((stJ J).getD i 0))) (stJ J).length 0 (stJ J).length : Nat)]
noncomputable def chk (J : List Bool) : Bool :=
  decide ([((nW J).n : Int), (nW J).nt, lrF (nW J), (fW J).n, (fW J).nt, lrF (fW J)] = [(J.length : Int) + (RJ J).length, ((RJ J).length : Int) - 1, mJ J, J.length, ((RJ J).length : Int) - 1, mJ J - 1]) &&
  (decide (wideJ J = ((szJ J).zip (chJ J)).map fun p => (p.1 : Int) * ((nW J).nt + p.2) + (lastJ J).fmod p.1) &&
  (decide (slimJ J = ((szJ J).zip (piJ J)).map fun p => ((p.1 : Int) - 1) * ((fW J).nt + p.2) + (lastJ J - 1).fmod ((p.1 : Int) - 1)) &&
  (decide (1 ≤ mJ J ∧ mJ J ≤ 9 ∧ 0 < (RJ J).length ∧ 0 ≤ (piJ J).getD 0 0 ∧ (piJ J).getD 0 0 ≤ 9) &&
  (List.range ((piJ J).getD 0 0 + 1).toNat).all fun k => decide (0 < (fitJ J (chJ J) k).length) && (decide (0 < (fitJ J (piJ J) k).length) && decide (fdJ J k = plJ J k ++ plJ J k)))))
noncomputable def allJ : Nat → List (List Bool)
  | 0 => [[]]
  | n + 1 => (allJ n).flatMap fun J => [true :: J, false :: J]
theorem mem_allJ : ∀ (J : List Bool), J ∈ allJ J.length
  | [] => List.mem_singleton.mpr rfl
  | b :: J => by
    show _ ∈ (allJ J.length).flatMap _
    refine List.mem_flatMap.mpr ⟨J, mem_allJ J, ?_⟩
    cases b <;> simp
end Mine
end
section
open PySem PySem.W PyProof.Rows
set_option Elab.async false
set_option linter.unusedVariables false
set_option maxRecDepth 100000
namespace Mine
theorem tslice {x : Str} {a b : Nat} (hab : a ≤ b) (hb : b ≤ x.length) : (Txt.slice x (some (a : Int)) (some (b : Int))).cps.toList = (x.cps.toList.drop a).take (b - a) := by
  have hlen : x.cps.toList.length = x.length := by simp [Str.length]
  unfold Txt.slice
  split
  · rename_i h
    rw [StrLaws.strSliceIndices_plain hab hb] at h
    simp only [List.length_map, List.length_range, Bool.and_eq_true, beq_iff_eq] at h
    have h2 := h.2
    have ha : a = 0 := by omega
    subst ha
    rw [List.drop_zero, List.take_of_length_le (by omega)]
  · rw [StrLaws.sliced_plain x hab hb]
theorem ssi_none {u n : Nat} : Builtin.Str.strSliceIndices none (some (u : Int)) 1 n = Builtin.Str.strSliceIndices (some ((0 : Nat) : Int)) (some ((min u n : Nat) : Int)) 1 n := by
  unfold Builtin.Str.strSliceIndices
  simp only [show (1 : Int) > 0 by decide, if_true, show ¬ ((u : Int) < 0) by omega, show ¬ (((min u n : Nat) : Int) < 0) by omega, show ¬ (((0 : Nat) : Int) < 0) by omega, if_false]
  congr 1
  omega
theorem tslice_to {x : Str} (u : Nat) : (Txt.slice x none (some (u : Int))).cps.toList = x.cps.toList.take u := by
  have e : Txt.slice x none (some (u : Int)) = Txt.slice x (some ((0 : Nat) : Int)) (some ((min u x.length : Nat) : Int)) := by unfold Txt.slice; rw [ssi_none]
  rw [e, tslice (Nat.zero_le _) (by omega), List.drop_zero]
  have hlen : x.cps.toList.length = x.length := by simp [Str.length]
  rcases Nat.le_total u x.length with h | h
  · rw [Nat.min_eq_left h]; rfl
  · rw [Nat.min_eq_right h, List.take_of_length_le (by omega), List.take_of_length_le (by omega)]
theorem str_eq {x y : Str} : x = y ↔ x.cps.toList = y.cps.toList := by
  constructor
  · rintro rfl; rfl
  · intro q; cases x; cases y; simp only [Str.mk.injEq] at *; exact Array.toList_inj.mp q
theorem take_one {l : List Nat} {k : Nat} (h : k < l.length) : (l.drop k).take 1 = [l.getD k 0] := by
  rw [List.drop_eq_getElem_cons h, getD_at _ h]; rfl
noncomputable def joinsOf (x : Str) : List Bool := (List.range (x.length - 1)).map fun k => decide (Str.mk #[x.cps.toList.getD k 0] = Str.mk #[x.cps.toList.getD (k + 1) 0])
theorem jn_jb {x : Str} (h1 : 0 < x.length) : ∀ k < x.length, jn x k = jb (joinsOf x) k := by
  intro k hk
  have hlen : x.cps.toList.length = x.length := by simp [Str.length]
  unfold jn
  rw [Bool.eq_iff_iff, decide_eq_true_eq, str_eq]
  have e1 : (Txt.slice x (some (k : Int)) (some ((k : Int) + 1))).cps.toList = [x.cps.toList.getD k 0] := by
    have := tslice (x := x) (a := k) (b := k + 1) (by omega) (by omega)
    rw [show ((k : Int) + 1) = ((k + 1 : Nat) : Int) by omega, this, show k + 1 - k = 1 by omega, take_one (by omega)]
  rw [e1]
  cases k with
  | zero =>
    have e2 : (Txt.slice x (some (((0 : Nat) : Int) - 1)) (some ((0 : Nat) : Int))).cps.toList = [] := by
      have e3 : Builtin.Str.strSliceIndices (some (((0 : Nat) : Int) - 1)) (some ((0 : Nat) : Int)) 1 x.length = [] := by
        unfold Builtin.Str.strSliceIndices sliceRange
        simp only [show (1 : Int) > 0 by decide, if_true, show (((0 : Nat) : Int) - 1 < 0) by decide, show ¬ (((0 : Nat) : Int) < 0) by decide, if_false]
        rw [if_neg (by omega)]
        rfl
      unfold Txt.slice
      rw [e3]
      rw [if_neg (by simp; omega)]
      rfl
    rw [e2]
    simp [jb]
  | succ k =>
    have e2 : (Txt.slice x (some (((k + 1 : Nat) : Int) - 1)) (some ((k + 1 : Nat) : Int))).cps.toList = [x.cps.toList.getD k 0] := by
      have := tslice (x := x) (a := k) (b := k + 1) (by omega) (by omega)
      rw [show (((k + 1 : Nat) : Int) - 1) = (k : Int) by omega, this, show k + 1 - k = 1 by omega, take_one (by omega)]
    rw [e2]
    show _ ↔ (joinsOf x).getD k false = true
    have hk' : k < (joinsOf x).length := by unfold joinsOf; simp; omega
    rw [getD_at _ hk']
    unfold joinsOf
    simp only [List.getElem_map, List.getElem_range, decide_eq_true_eq, List.cons.injEq, and_true, Str.mk.injEq]
    constructor
    · intro e; rw [e]
    · intro e; simpa using e.symm
theorem joinsOf_len (x : Str) : (joinsOf x).length = x.length - 1 := by unfold joinsOf; simp
theorem rowsF_J {x : Str} (h1 : 0 < x.length) : rowsF x x.length = RJ (joinsOf x) := by
  unfold RJ nJ; rw [joinsOf_len, show x.length - 1 + 1 = x.length by omega]
  exact rowsF_G x _ _ (jn_jb h1)
theorem jn_list {x : Str} (h1 : 0 < x.length) : (List.range x.length).map (jn x) = false :: joinsOf x := by
  rw [← range_jb, joinsOf_len, show x.length - 1 + 1 = x.length by omega]
  exact List.map_congr_left fun k hk => jn_jb h1 k (List.mem_range.mp hk)
theorem chF_J {x : Str} (h1 : 0 < x.length) {m : Nat} (hm : 2 ≤ m) : chF x m x.length = chG (joinsOf x) m := by
  rw [chF_S x hm, jn_list h1]; rfl
theorem piF_J {x : Str} (h1 : 0 < x.length) {m : Nat} (hm : 2 ≤ m) : piF x m x.length = piG (joinsOf x) m := by
  rw [piF_S x hm, jn_list h1]; rfl
theorem join_cps : ∀ xs : List Str, (Txt.join "" xs).cps.toList = (xs.map fun x => x.cps.toList).flatten := by
  intro xs
  have e0 : ("" : Str).cps = #[] := by kernel_rfl
  show (Builtin.Str.glued "" xs).cps.toList = _
  rw [StrLaws.glued_eq_join]
  induction xs with
  | nil => rfl
  | cons x r ih =>
    cases r with
    | nil => simp [Str.join]
    | cons y r =>
      have e : Str.join "" (x :: y :: r) = x ++ "" ++ Str.join "" (y :: r) := rfl
      rw [e, List.map_cons, List.flatten_cons, ← ih]
      rw [Str.cps_append, Str.cps_append, e0]
      simp
theorem joinOk_short {xs : List Str} (h : (xs.map (·.length)).sum ≤ 1000000) : JoinOk "" xs = true := by
  refine joinOk_of ?_
  have e0 : ("" : Str).length = 0 := by kernel_rfl
  rw [e0]; omega
noncomputable def prep (cs : List Nat) : List Nat := ((cs.filter fun c : Nat => !strange (c : Int)).map fun c => (mapB3 c).cps.toList).flatten
theorem prep_app (a b : List Nat) : prep (a ++ b) = prep a ++ prep b := by unfold prep; rw [List.filter_append, List.map_append, List.flatten_append]
theorem ahead_prep (r : Int) : prep (aheadF r).cps.toList = [] := by
  unfold aheadF
  split
  · have b27 : 0 ≤ (r.fdiv 132).fmod 27 ∧ (r.fdiv 132).fmod 27 < 27 := ⟨fmod_lo _ (by decide), fmod_hi _ (by decide)⟩
    generalize (r.fdiv 132).fmod 27 = st at b27
    have h : ∀ i < 27, prep [(if ((i : Nat) : Int) < 11 then noiseL.getD i 0 else 65013 + (i : Int)).toNat] = [] := by decide +kernel
    obtain ⟨n, rfl⟩ := Int.eq_ofNat_of_zero_le b27.1
    exact h n (by omega)
  · decide +kernel
theorem drawn_prep (a : Int) : prep (drawnF a).1.cps.toList = (drawnF a).2.cps.toList := by
  unfold drawnF
  have k3 : 0 ≤ a.fmod 3 ∧ a.fmod 3 < 3 := ⟨fmod_lo _ (by decide), fmod_hi _ (by decide)⟩
  generalize a.fdiv 3 = rest
  have b12 : 0 ≤ rest.fmod 12 ∧ rest.fmod 12 < 12 := ⟨fmod_lo _ (by decide), fmod_hi _ (by decide)⟩
  have b11 : 0 ≤ (rest.fdiv 3).fmod 11 ∧ (rest.fdiv 3).fmod 11 < 11 := ⟨fmod_lo _ (by decide), fmod_hi _ (by decide)⟩
  have b3 : 0 ≤ rest.fmod 3 ∧ rest.fmod 3 < 3 := ⟨fmod_lo _ (by decide), fmod_hi _ (by decide)⟩
  dsimp only
  split
  · generalize rest.fmod 12 = i at b12
    obtain ⟨n, rfl⟩ := Int.eq_ofNat_of_zero_le b12.1
    rw [Str.cps_append, Array.toList_append, prep_app, ahead_prep, List.nil_append]
    have h : ∀ i < 12, prep [signsS.cps.toList.getD i 0] = (meantL.getD i "").cps.toList := by decide +kernel
    exact h n (by omega)
  · generalize rest.fmod 3 = i at b3
    generalize (rest.fdiv 3).fmod 11 = j at b11
    obtain ⟨n, rfl⟩ := Int.eq_ofNat_of_zero_le b3.1
    obtain ⟨m, rfl⟩ := Int.eq_ofNat_of_zero_le b11.1
    rw [Str.cps_append, Array.toList_append, prep_app, ahead_prep, List.nil_append]
    split
    · have h : ∀ i < 3, ∀ j < 11, prep [(basesL.getD j 0 + ([5, 18, 10] : List Int).getD i 0).toNat] = [("fsk" : Str).cps.toList.getD i 0] := by decide +kernel
      exact h n (by omega) m (by omega)
    · have h : ∀ i < 3, prep [((97 : Int) + ([5, 18, 10] : List Int).getD i 0).toNat] = [("fsk" : Str).cps.toList.getD i 0] := by decide +kernel
      exact h n (by omega)
theorem drawn_len (a : Int) : 1 ≤ (drawnF a).2.length ∧ (drawnF a).2.length ≤ 3 ∧ (drawnF a).1.length ≤ 2 := by
  unfold drawnF
  generalize a.fdiv 3 = rest
  have b12 : 0 ≤ rest.fmod 12 ∧ rest.fmod 12 < 12 := ⟨fmod_lo _ (by decide), fmod_hi _ (by decide)⟩
  have la := aheadF_len rest
  dsimp only
  split
  · generalize rest.fmod 12 = i at b12
    obtain ⟨n, rfl⟩ := Int.eq_ofNat_of_zero_le b12.1
    have h : ∀ i < 12, 1 ≤ (meantL.getD i "").length ∧ (meantL.getD i "").length ≤ 3 := by decide +kernel
    have := h n (by omega)
    refine ⟨this.1, this.2, ?_⟩
    rw [Str.length_append, len1]; omega
  · refine ⟨Nat.le_refl 1, by show 1 ≤ 3; omega, ?_⟩
    rw [Str.length_append, len1]; omega
end Mine
end
section
open PySem PySem.W PyProof.Rows
set_option Elab.async false
set_option linter.unusedVariables false
set_option maxRecDepth 100000
namespace Mine
theorem chk0 : (allJ 0).all chk = true := by decide +kernel
theorem chk1 : (allJ 1).all chk = true := by decide +kernel
theorem chk2 : (allJ 2).all chk = true := by decide +kernel
theorem chk3 : (allJ 3).all chk = true := by decide +kernel
theorem chk4 : (allJ 4).all chk = true := by decide +kernel
theorem chk5 : (allJ 5).all chk = true := by decide +kernel
theorem chk6 : (allJ 6).all chk = true := by decide +kernel
theorem chk7 : (allJ 7).all chk = true := by decide +kernel
theorem chk8a : ((allJ 8).take 64).all chk = true := by decide +kernel
theorem chk8b : (((allJ 8).drop 64).take 64).all chk = true := by decide +kernel
theorem chk8c : (((allJ 8).drop 128).take 64).all chk = true := by decide +kernel
theorem chk8d : ((allJ 8).drop 192).all chk = true := by decide +kernel
theorem all4 {α : Type} {p : α → Bool} {l : List α} (a : (l.take 64).all p = true) (b : ((l.drop 64).take 64).all p = true) (c : ((l.drop 128).take 64).all p = true) (d : (l.drop 192).all p = true) : l.all p = true := by
  have h1 : l.drop 128 = (l.drop 64).drop 64 := by rw [List.drop_drop]
  have h2 : l.drop 192 = (l.drop 128).drop 64 := by rw [List.drop_drop]
  have e : l = l.take 64 ++ ((l.drop 64).take 64 ++ ((l.drop 128).take 64 ++ l.drop 192)) := by
    rw [h2, List.take_append_drop, h1, List.take_append_drop, List.take_append_drop]
  rw [e, List.all_append, List.all_append, List.all_append, a, b, c, d]; rfl
theorem chk8 : (allJ 8).all chk = true := all4 chk8a chk8b chk8c chk8d
theorem all_chk (J : List Bool) (h : J.length ≤ 8) : chk J = true := by
  have m := mem_allJ J
  have o : J.length = 0 ∨ J.length = 1 ∨ J.length = 2 ∨ J.length = 3 ∨ J.length = 4 ∨ J.length = 5 ∨ J.length = 6 ∨ J.length = 7 ∨ J.length = 8 := by omega
  rcases o with e | e | e | e | e | e | e | e | e <;> rw [e] at m
  · exact List.all_eq_true.mp chk0 J m
  · exact List.all_eq_true.mp chk1 J m
  · exact List.all_eq_true.mp chk2 J m
  · exact List.all_eq_true.mp chk3 J m
  · exact List.all_eq_true.mp chk4 J m
  · exact List.all_eq_true.mp chk5 J m
  · exact List.all_eq_true.mp chk6 J m
  · exact List.all_eq_true.mp chk7 J m
  · exact List.all_eq_true.mp chk8 J m
end Mine
end
section
open PySem PySem.W PyProof.Rows
set_option Elab.async false
set_option linter.unusedVariables false
set_option maxRecDepth 100000
set_option maxHeartbeats 1000000
noncomputable section
namespace Mine
variable {w : World} {A : Around} {X : Addr → Prop} {h : Heap} {env : Env}
noncomputable def fdLaw (P : Params) : FuncData := match (o_16_202 P).data with | .func fd => fd | _ => default
noncomputable def QL (s : Shared) : Flow → Shared → Prop := fun f s' => Rd Ø s'.heap (match f with | .ret v => v | _ => .none) (.bool true) ∧ Kp s s'
theorem pickL_len' {α : Type} (lo hi : Option Int) (l : List α) : (pickL lo hi none l).length ≤ l.length := by
  refine Nat.le_trans (List.length_filterMap_le _ _) ?_
  simp only [picks, sliceBounds, sliceRange, Option.getD_none, List.length_map, List.length_range, show (1 : Int) > 0 by decide, if_true, Int.ediv_one]
  cases lo <;> cases hi <;> simp only [] <;> (split <;> (try split) <;> (try split) <;> (try split) <;> omega)
noncomputable def drawnL (ns : List Int) : List Int := if 1 < ns.length then (ns.drop 1).take 8 else [40, 123, 132, 108, 103]
theorem drawnL_len (ns : List Int) : 1 ≤ (drawnL ns).length ∧ (drawnL ns).length ≤ 8 := by
  unfold drawnL
  split
  · simp only [List.length_take, List.length_drop]; omega
  · decide
theorem pick_1_9 (ns : List Int) (h : 1 < ns.length) : pickL (some 1) (some 9) none ns = drawnL ns := by
  unfold drawnL; rw [if_pos h]
  unfold pickL picks
  have e : sliceBounds (some 1) (some 9) none ns.length = (((1 : Nat) : Int), ((min 9 ns.length : Nat) : Int), 1) := by
    simp only [sliceBounds, Option.getD_none, show (1 : Int) > 0 by decide, if_true, show ¬ ((1 : Int) < 0) by decide, show ¬ ((9 : Int) < 0) by decide, if_false, Prod.mk.injEq, and_true]
    omega
  rw [e]
  dsimp only
  rw [sliceRange_nat, pick_ft]
  rcases Nat.le_total 9 ns.length with h2 | h2
  · rw [Nat.min_eq_left h2]
  · rw [Nat.min_eq_right h2, List.take_of_length_le (by simp), List.take_of_length_le (by simp; omega)]
noncomputable def turned (L : List Int) (t : Nat) : List Int := L.drop t ++ L.take t
theorem pick_drop {α : Type} (l : List α) {t : Nat} (h : t ≤ l.length) : pickL (some (t : Int)) none none l = l.drop t := by
  unfold pickL picks
  have e : sliceBounds (some (t : Int)) none none l.length = ((t : Int), ((l.length : Nat) : Int), 1) := by
    simp only [sliceBounds, Option.getD_none, show (1 : Int) > 0 by decide, if_true, show ¬ ((t : Int) < 0) by omega, if_false, Prod.mk.injEq, and_true]
    omega
  rw [e]
  dsimp only
  rw [sliceRange_nat, pick_ft, List.take_of_length_le (by simp)]
theorem pick_take {α : Type} (l : List α) {t : Nat} (h : t ≤ l.length) : pickL none (some (t : Int)) none l = l.take t := by
  unfold pickL picks
  have e : sliceBounds none (some (t : Int)) none l.length = (((0 : Nat) : Int), (t : Int), 1) := by
    simp only [sliceBounds, Option.getD_none, show (1 : Int) > 0 by decide, if_true, show ¬ ((t : Int) < 0) by omega, if_false, Prod.mk.injEq, and_true]
    omega
  rw [e]
  dsimp only
  rw [sliceRange_nat, pick_ft, List.drop_zero, Nat.sub_zero]
noncomputable def numsL (ns : List Int) : List Int := turned (drawnL ns) (((ns ++ [1]).getD 0 0).fmod ((drawnL ns).length : Int)).toNat
theorem numsL_len (ns : List Int) : 1 ≤ (numsL ns).length ∧ (numsL ns).length ≤ 8 := by
  have h := drawnL_len ns
  unfold numsL turned
  simp only [List.length_append, List.length_drop, List.length_take]
  omega
noncomputable def textOf (ns : List Int) : Str := Txt.join "" ((numsL ns).map fun a => (drawnF a).1)
noncomputable def wholeOf (ns : List Int) : Str := Txt.join "" ((numsL ns).map fun a => (drawnF a).2)
noncomputable def wordOf (ns : List Int) : Str := Txt.slice (wholeOf ns) none (some 9)
theorem sum_le {α : Type} (l : List α) (f : α → Nat) (c : Nat) (h : ∀ a, f a ≤ c) : (l.map f).sum ≤ l.length * c := by
  induction l with
  | nil => simp
  | cons a l ih => have := h a; simp only [List.map_cons, List.sum_cons, List.length_cons, Nat.add_mul]; omega
theorem flat_len (xs : List Str) : ((xs.map fun x => x.cps.toList).flatten).length = (xs.map (·.length)).sum := by
  induction xs with
  | nil => rfl
  | cons x r ih => rw [List.map_cons, List.flatten_cons, List.length_append, ih, List.map_cons, List.sum_cons]; simp [Str.length]
theorem text_len (ns : List Int) : (textOf ns).length ≤ 16 := by
  have h := numsL_len ns
  have h1 : (textOf ns).cps.toList.length ≤ 16 := by
    unfold textOf
    rw [join_cps, flat_len, List.map_map]
    have := sum_le (numsL ns) (fun a => (drawnF a).1.length) 2 fun a => (drawn_len a).2.2
    refine Nat.le_trans this ?_
    omega
  simpa [Str.length] using h1
theorem whole_len (ns : List Int) : 1 ≤ (wholeOf ns).length ∧ (wholeOf ns).length ≤ 24 := by
  have h := numsL_len ns
  have e1 : (wholeOf ns).cps.toList.length = ((numsL ns).map fun a => (drawnF a).2.length).sum := by
    unfold wholeOf; rw [join_cps, flat_len, List.map_map]; rfl
  have e : (wholeOf ns).length = ((numsL ns).map fun a => (drawnF a).2.length).sum := by simpa [Str.length] using e1
  rw [e]
  constructor
  · match hh : numsL ns, h.1 with
    | a :: r, _ => have := (drawn_len a).1; simp only [List.map_cons, List.sum_cons]; omega
  · have := sum_le (numsL ns) (fun a => (drawnF a).2.length) 3 fun a => (drawn_len a).2.1
    omega
theorem word_len (ns : List Int) : 1 ≤ (wordOf ns).length ∧ (wordOf ns).length ≤ 9 := by
  have h := whole_len ns
  have e : (wordOf ns).cps.toList = (wholeOf ns).cps.toList.take 9 := tslice_to (x := wholeOf ns) 9
  have e1 : (wordOf ns).length = (wordOf ns).cps.toList.length := by simp [Str.length]
  have e2 : (wholeOf ns).length = (wholeOf ns).cps.toList.length := by simp [Str.length]
  rw [e1, e, List.length_take]; omega
theorem prep_flat : ∀ xs : List Str, prep ((xs.map fun x => x.cps.toList).flatten) = (xs.map fun x => prep x.cps.toList).flatten
  | [] => rfl
  | x :: r => by rw [List.map_cons, List.flatten_cons, prep_app, prep_flat r]; rfl
theorem prepared (ns : List Int) : Txt.join "" (((textOf ns).cps.toList.filter fun c : Nat => !strange (c : Int)).map fun c => mapB3 c) = wholeOf ns := by
  rw [str_eq, join_cps, List.map_map]
  show prep (textOf ns).cps.toList = _
  unfold textOf wholeOf
  rw [join_cps, join_cps, prep_flat, List.map_map, List.map_map]
  congr 1
  refine List.map_congr_left fun a _ => drawn_prep a
end Mine
end
end
section
open PySem PySem.W PyProof.Rows
set_option Elab.async false
set_option linter.unusedVariables false
set_option maxRecDepth 100000
set_option maxHeartbeats 1000000
noncomputable section
namespace Mine
variable {w : World} {A : Around} {X : Addr → Prop} {h : Heap} {env : Env}
theorem comp_nil {iter : Expr} {scope : Scope} {xs : List Str} (hf : ∀ x, foldedSetIterable iter env x = pure x) (hc : closureFor scope env = pure []) (hk : scope.kind = .function) (hs : scopeOk scope xs = true) (hn : xs.Nodup) : CompOk env iter scope xs [] :=
  CompOk.of hf hc hk hs hn rfl (fun q hq => absurd hq List.not_mem_nil) fun x y c e => by simp at e
noncomputable def clsL (n : Nat) : List (Str × Addr) := [("word", n + 1), ("rows", n + 2), ("k", n + 3), ("sizes", n + 4), ("far", n + 5), ("near", n + 6)]
theorem cellsL {n : Nat} (henv : env = callEnvC (fdLaw w.params) n 202) : CellN env [("word", n + 1), ("rows", n + 2), ("k", n + 3), ("sizes", n + 4), ("far", n + 5), ("near", n + 6)] ∧ StoN env [("word", n + 1), ("rows", n + 2), ("k", n + 3), ("sizes", n + 4), ("far", n + 5), ("near", n + 6)] :=
  CellN.of (by
    subst henv
    simp only [List.all_cons, List.all_nil, Bool.and_true, Bool.and_eq_true, beq_iff_eq]
    exact ⟨⟨by kernel_rfl, by kernel_rfl⟩, ⟨by kernel_rfl, by kernel_rfl⟩, ⟨by kernel_rfl, by kernel_rfl⟩, ⟨by kernel_rfl, by kernel_rfl⟩, ⟨by kernel_rfl, by kernel_rfl⟩, ⟨by kernel_rfl, by kernel_rfl⟩⟩)
theorem segA {s s₁ : Shared} {E : Value → Shared → Prop} {n : Nat} {ns : List Int} (t : TF w h) (k : At Ø h s.heap) (hr : Rm A 20) (henv : env = callEnvC (fdLaw w.params) n 202) (O : EnvOk env) (hn : ns.length ≤ 63)
    (F : Fm env Ø Ø s s₁ [("script", .list (ns.map .int))])
    (next : ∀ s', Fm env Ø Ø s s' [("word", .str (wordOf ns))] → Run pwT w (A.deeper env) env ((stB (stN 16)).drop 9) (QL s) E s') :
    Run pwT w (A.deeper env) env ((stB (stN 16)).drop 0) (QL s) E s₁ := by
  have be : Bse env := henv ▸ .call rfl rfl rfl
  have hr' : Rm (A.deeper env) 19 := hr.deeper env
  have szl : sizeLine = 16777216 := rfl
  obtain ⟨hcn, hsn⟩ := cellsL (w := w) henv
  have hL := drawnL_len ns
  have hN := numsL_len ns
  refine .at 0 rfl ?_
  have g0 : (ns.map Dat.int ++ [Dat.int 1])[(0 : Int).toNat]? = some (.int ((ns ++ [1]).getD 0 0)) := by
    cases ns <;> rfl
  refine .assignN (.int ((ns ++ [1]).getD 0 0)) O F ?_ (by walk_at "sto") (by walk_at "kr") (by walk_at "kr") fun s₂ F₂ st₂ => .at 1 rfl ?_
  · walk_at "ev"
  generalize hfirst : (ns ++ [1]).getD 0 0 = first at F₂
  refine .assignN (.list ((drawnL ns).map .int)) O F₂ ?_ (by walk_at "sto") (by walk_at "kr") (by walk_at "kr") fun s₃ F₃ st₃ => .at 2 rfl ?_
  · with_reducible apply EV.ite (c := decide ((1 : Int) < ((ns.map Dat.int).length : Int)))
    · walk_at "tv"
    · intro hc
      have hc := of_decide_eq_true hc
      simp only [List.length_map] at hc
      rw [← pick_1_9 ns (by omega), ← pickL_map]
      with_reducible apply slice_list
      · walk_at "ev"
      · exact .some EV.int
      · exact .some EV.int
      · exact .none
      · decide
      · simp only [List.length_map]; omega
    · intro hc
      have hc := of_decide_eq_false hc
      simp only [List.length_map] at hc
      unfold drawnL
      rw [if_neg (by omega)]
      walk_at "ints"
  have hl8 : (((drawnL ns).map Dat.int).length : Int) = (drawnL ns).length := by simp
  refine .assignN (.int (first.fmod ((drawnL ns).length : Int))) O F₃ ?_ (by walk_at "sto") (by walk_at "kr") (by walk_at "kr") fun s₄ F₄ st₄ => .at 3 rfl ?_
  · rw [← hl8]
    walk_at "ev"
  have t0 := fmod_lo first (b := ((drawnL ns).length : Int)) (by omega)
  have t1 := fmod_hi first (b := ((drawnL ns).length : Int)) (by omega)
  have hnums : numsL ns = (drawnL ns).drop (first.fmod ((drawnL ns).length : Int)).toNat ++ (drawnL ns).take (first.fmod ((drawnL ns).length : Int)).toNat := by unfold numsL turned; rw [hfirst]
  generalize first.fmod ((drawnL ns).length : Int) = turn at F₄ t0 t1 hnums
  obtain ⟨tn, rfl⟩ := Int.eq_ofNat_of_zero_le t0
  refine .comp1 (y := "number") [] (numsL ns) .int (fun _ => true) (fun a => .list [.str (drawnF a).1, .str (drawnF a).2]) O F₄ (Src.listN _ _ hr'.handled ?_) (ρ' := []) (F₄.sub (ρ' := []) (by walk_at "sub")).loc (comp_nil (by subst henv; exact fun _ => rfl) (by walk_at "kr") rfl (by kernel_rfl) (by decide)) rfl (by omega) ?_ (by walk_at "kr") (by walk_at "sto") (by walk_at "kr") fun s₅ F₅ st₅ => .at 4 rfl ?_
  · rw [hnums, List.map_append, ← pick_drop (drawnL ns) (by omega), ← pick_take (drawnL ns) (by omega), ← pickL_map, ← pickL_map]
    with_reducible apply EV.bin
    · with_reducible apply slice_list
      · walk_at "ev"
      · exact .some (by walk_at "ev")
      · exact .none
      · exact .none
      · decide
      · simp only [List.length_map]; omega
    · with_reducible apply slice_list
      · walk_at "ev"
      · exact .none
      · exact .some (by walk_at "ev")
      · exact .none
      · decide
      · simp only [List.length_map]; omega
    · have h1 := pickL_len' (some (tn : Int)) none ((drawnL ns).map Dat.int)
      have h2 := pickL_len' none (some (tn : Int)) ((drawnL ns).map Dat.int)
      simp only [List.length_map] at h1 h2
      exact Bin.addL (by omega)
  · intro a ha C Y h' hXY hx hY hcn L
    refine ⟨rfl, fun _ => ?_⟩
    have t' : TF w h' := TF.ext (by walk_at "tf") hx
    exact EV.callF (ev_g t' (be.comp rfl) (by walk_at "kr") (by kernel_rfl) (by kernel_rfl)) (.cons (by walk_at "ev") .nil rfl) (law_drawn_ok t' (hr'.le (by omega))) (t'.fn (o := o_12_176 w.params) (by kernel_rfl) (by decide +kernel) rfl) rfl
  rw [filter_all] at F₅
  refine .assignN (.str (textOf ns)) O F₅ ?_ (by walk_at "sto") (by walk_at "kr") (by walk_at "kr") fun s₆ F₆ st₆ => .at 5 rfl ?_
  · refine cJoin (x := "") (texts := (numsL ns).map fun a => (drawnF a).1) (EV.cast (EV.comp2 (y := "typed") (z := "meant") [] (numsL ns) (fun a => .str (drawnF a).1) (fun a => .str (drawnF a).2) (fun _ => true) (fun a => .str (drawnF a).1) (Src.listP (numsL ns) _ _ hr'.handled (by walk_at "ev") rfl rfl) (F₅.sub (ρ' := []) (by walk_at "sub")).loc F₅.live
      (comp_nil (by subst henv; exact fun _ => rfl) (by walk_at "kr") rfl (by kernel_rfl) (by decide)) rfl (by omega) ?_) (by rw [filter_all, List.map_map]; rfl)) (joinOk_short ?_) rfl rfl rfl
    · intro a ha C Y h' hXY hx hY hcn L
      exact ⟨rfl, fun _ => by walk_at "ev"⟩
    · rw [List.map_map]
      have := sum_le (numsL ns) (fun a => (drawnF a).1.length) 2 fun a => (drawn_len a).2.2
      refine Nat.le_trans this ?_
      omega
  have tl := text_len ns
  have tlc : (textOf ns).cps.toList.length ≤ 16 := by simpa [Str.length] using tl
  refine .ifF F₆ ?_ fun s₇ k₇ F₇ => .at 6 rfl ?_
  · refine TV.cast (TV.cmp (EV.cast (d' := .list (([] : List Str).map .str)) (EV.comp1 (y := "sign") [] (textOf ns).cps.toList (fun c => .str ⟨#[c]⟩) (fun _ => false) (fun c => .str ⟨#[c]⟩) (Src.strN hr'.handled (by walk_at "ev")) (F₆.sub (ρ' := []) (by walk_at "sub")).loc F₆.live
      (comp_nil (by subst henv; exact fun _ => rfl) (by walk_at "kr") rfl (by kernel_rfl) (by decide)) rfl (by omega) ?_) (by simp)) (EV.list .nil (by decide)) (Cmp.neT (Tp.list Tp.str) (a := []) (b := []) (by simp) (by simp) (by have := hr'.units; omega)) rfl) (by simp)
    intro c hc C Y h' hXY hx hY hcn L
    refine ⟨?_, fun q => by cases q⟩
    have t' : TF w h' := TF.ext (by walk_at "tf") hx
    refine TV.cast (TV.not (TV.of_value (b := true) ?_ fun _ => rfl)) rfl
    refine EV.callB (ev_b t' (be.comp rfl) (by walk_at "kr") (by kernel_rfl)) (.cons (EV.callF (d := .bool (strange (c : Int))) (ev_g t' (be.comp rfl) (by walk_at "kr") (by kernel_rfl) (by kernel_rfl)) (.cons (by walk_at "ev") .nil rfl) (in_table_ok t' (hr'.le (by omega))) (t'.fn (o := o_3_39 w.params) (by kernel_rfl) (by decide +kernel) rfl) rfl) (.cons (ev_b t' (be.comp rfl) (by walk_at "kr") (by kernel_rfl)) .nil rfl) rfl) Fn.isBool rfl fun _ => rfl
  refine .assignN (.str (wholeOf ns)) O F₇ ?_ (by walk_at "sto") (by walk_at "kr") (by walk_at "kr") fun s₈ F₈ st₈ => .at 7 rfl ?_
  · rw [← prepared ns]
    refine cJoin (x := "") (EV.cast (EV.comp1 (y := "sign") [] (textOf ns).cps.toList (fun c => .str ⟨#[c]⟩) (fun c => !strange (c : Int)) (fun c => .str (mapB3 c)) (Src.strN hr'.handled (by walk_at "ev")) (F₇.sub (ρ' := []) (by walk_at "sub")).loc F₇.live
      (comp_nil (by subst henv; exact fun _ => rfl) (by walk_at "kr") rfl (by kernel_rfl) (by decide)) rfl (by omega) ?_) (by rw [List.map_map]; rfl)) (joinOk_short ?_) rfl rfl rfl
    · intro c hc C Y h' hXY hx hY hcn L
      have t' : TF w h' := TF.ext (by walk_at "tf") hx
      refine ⟨TV.not (TV.of_value ?_ fun _ => rfl), fun _ => ?_⟩
      · exact EV.callF (ev_g t' (be.comp rfl) (by walk_at "kr") (by kernel_rfl) (by kernel_rfl)) (.cons (by walk_at "ev") .nil rfl) (in_table_ok t' (hr'.le (by omega))) (t'.fn (o := o_3_39 w.params) (by kernel_rfl) (by decide +kernel) rfl) rfl
      · exact EV.callF (ev_g t' (be.comp rfl) (by walk_at "kr") (by kernel_rfl) (by kernel_rfl)) (.cons (by walk_at "ev") .nil rfl) (map_table_ok t' (hr'.le (by omega))) (t'.fn (o := o_5_85 w.params) (by kernel_rfl) (by decide +kernel) rfl) rfl
    · have e := congrArg (fun x : Str => x.cps.toList.length) (prepared ns)
      simp only [join_cps, flat_len] at e
      rw [e]
      have := (whole_len ns).2
      have e2 : (wholeOf ns).cps.toList.length = (wholeOf ns).length := by simp [Str.length]
      omega
  have wl := whole_len ns
  refine .ifF F₈ ?_ fun s₉ k₉ F₉ => .at 8 rfl ?_
  · refine TV.cast (TV.cmp (a := .str (wholeOf ns)) (b := .str (wholeOf ns)) (by walk_at "ev") (cJoin (x := "") (texts := (numsL ns).map fun a => (drawnF a).2) (EV.cast (EV.comp2 (y := "typed") (z := "meant") [] (numsL ns) (fun a => .str (drawnF a).1) (fun a => .str (drawnF a).2) (fun _ => true) (fun a => .str (drawnF a).2) (Src.listP (numsL ns) _ _ hr'.handled (by walk_at "ev") rfl rfl) (F₈.sub (ρ' := []) (by walk_at "sub")).loc F₈.live
      (comp_nil (by subst henv; exact fun _ => rfl) (by walk_at "kr") rfl (by kernel_rfl) (by decide)) rfl (by omega) ?_) (by rw [filter_all, List.map_map]; rfl)) (joinOk_short ?_) rfl rfl rfl) Cmp.neS rfl) (by simp)
    · intro a ha C Y h' hXY hx hY hcn L
      exact ⟨rfl, fun _ => by walk_at "ev"⟩
    · rw [List.map_map]
      have := sum_le (numsL ns) (fun a => (drawnF a).2.length) 3 fun a => (drawn_len a).2.1
      refine Nat.le_trans this ?_
      omega
  refine .assignN (.str (wordOf ns)) O F₉ ?_ (by walk_at "sto") (by walk_at "kr") (by walk_at "kr") fun s₁₀ F₁₀ st₁₀ => next s₁₀ (F₁₀.sub (by walk_at "sub"))
  exact slice_str (by walk_at "ev") .none (.some EV.int) (by omega)
end Mine
end
end
section
open PySem PySem.W PyProof.Rows
set_option Elab.async false
set_option linter.unusedVariables false
set_option maxRecDepth 100000
set_option maxHeartbeats 2000000
noncomputable section
namespace Mine
variable {w : World} {A : Around} {X : Addr → Prop} {h : Heap} {env : Env}
noncomputable def nearT (J : List Bool) : Str := (" " ++ Txt.join "" (J.map fun b => if b = true then (" " : Str) else "\t ")) ++ "x \t"
noncomputable def farT (J : List Bool) : Str := Txt.join "" (J.map fun b => if b = true then (" " : Str) else "\t") ++ "x \t"
theorem nearT_cps (J : List Bool) : (nearT J).cps.toList = nearC J := by
  unfold nearT nearC
  rw [Str.cps_append, Str.cps_append, Array.toList_append, Array.toList_append, join_cps, List.map_map]
  rw [show (" " : Str).cps.toList = [32] by decide +kernel, show ("x \t" : Str).cps.toList = [120, 32, 9] by decide +kernel]
  have e : J.map ((fun x : Str => x.cps.toList) ∘ fun b => if b = true then (" " : Str) else "\t ") = J.map fun b => if b then [32] else [9, 32] := by
    refine List.map_congr_left fun b _ => ?_
    cases b
    · show ("\t " : Str).cps.toList = [9, 32]; decide +kernel
    · show (" " : Str).cps.toList = [32]; decide +kernel
  rw [e]; rfl
theorem farT_cps (J : List Bool) : (farT J).cps.toList = farC J := by
  unfold farT farC
  rw [Str.cps_append, Array.toList_append, join_cps, List.map_map]
  rw [show ("x \t" : Str).cps.toList = [120, 32, 9] by decide +kernel]
  congr 2
  refine List.map_congr_left fun b _ => ?_
  cases b
  · show ("\t" : Str).cps.toList = [9]; decide +kernel
  · show (" " : Str).cps.toList = [32]; decide +kernel
theorem nearT_ws (J : List Bool) : wsOf (nearT J) = nW J := by unfold wsOf nW; rw [nearT_cps]
theorem farT_ws (J : List Bool) : wsOf (farT J) = fW J := by unfold wsOf fW; rw [farT_cps]
theorem nearT_len (J : List Bool) : (nearT J).length ≤ 2 * J.length + 4 := by
  have : (nearT J).cps.toList.length ≤ 2 * J.length + 4 := by
    rw [nearT_cps]; unfold nearC
    simp only [List.length_cons, List.length_append, List.length_flatten, List.length_nil, List.map_map]
    have := sum_le J (List.length ∘ fun b => if b then [32] else [9, 32]) 2 fun b => by cases b <;> decide
    omega
  simpa [Str.length] using this
theorem farT_len (J : List Bool) : (farT J).length ≤ 2 * J.length + 4 := by
  have : (farT J).cps.toList.length ≤ 2 * J.length + 4 := by
    rw [farT_cps]; unfold farC
    simp only [List.length_cons, List.length_append, List.length_flatten, List.length_nil, List.map_map]
    have := sum_le J (List.length ∘ fun b => if b then [32] else [9]) 2 fun b => by cases b <;> decide
    omega
  simpa [Str.length] using this
theorem nW_len (J : List Bool) : (nW J).cnt.length ≤ 2 * J.length + 4 := by
  rw [← nearT_ws]; unfold wsOf
  refine wsGo_len (N := 2 * J.length + 4) _ _ (Nat.zero_le _) ?_
  have := nearT_len J
  have e : (nearT J).cps.toList.length = (nearT J).length := by simp [Str.length]
  show 0 + _ ≤ _
  omega
theorem fW_len (J : List Bool) : (fW J).cnt.length ≤ 2 * J.length + 4 := by
  rw [← farT_ws]; unfold wsOf
  refine wsGo_len (N := 2 * J.length + 4) _ _ (Nat.zero_le _) ?_
  have := farT_len J
  have e : (farT J).cps.toList.length = (farT J).length := by simp [Str.length]
  show 0 + _ ≤ _
  omega
theorem RJ_len (J : List Bool) : (RJ J).length ≤ J.length + 1 := by
  have : ∀ (j : Nat → Bool) k, (rowsG j k).length ≤ k := by
    intro j k
    induction k with
    | zero => exact Nat.le_refl _
    | succ k ih =>
      unfold rowsG
      split
      · have h2 := pickL_len (rowsG j k)
        simp only [List.length_append, List.length_singleton]
        rename_i hj
        cases k with
        | zero => simp [rowsG, pickL, picks, sliceBounds, sliceRange]
        | succ k => omega
      · simp only [List.length_append, List.length_singleton]; omega
  exact this _ _
theorem WsAt.stp {R : WS} {a b : Shared} {x dx : Addr} (q : WsAt w R a.heap x dx) (st : Stp env Ø a b) (n1 : ¬ Own env x) (n2 : ¬ Own env dx) : WsAt w R b.heap x dx :=
  q.keep st.seq (fun o e => st.kept x o n1 (fun z => z) e) fun o e => st.kept dx o n2 (fun z => z) e
theorem segB {s s₁ : Shared} {E : Value → Shared → Prop} {n : Nat} {x : Str} (t : TF w h) (k : At Ø h s.heap) (hr : Rm A 20) (henv : env = callEnvC (fdLaw w.params) n 202) (O : EnvOk env) (hx1 : 1 ≤ x.length) (hx9 : x.length ≤ 9)
    (F : Fm env Ø Ø s s₁ [("word", .str x)])
    (next : ∀ s' a da b db, Fm env Ø Ø s s' [("far", .val (.ref b)), ("near", .val (.ref a)), ("joins", .list ((joinsOf x).map .bool)), ("rows", .list ((RJ (joinsOf x)).map .int)), ("word", .str x)] → WsAt w (nW (joinsOf x)) s'.heap a da → WsAt w (fW (joinsOf x)) s'.heap b db →
      ¬ Own env a → ¬ Own env da → ¬ Own env b → ¬ Own env db → Run pwT w (A.deeper env) env ((stB (stN 16)).drop 13) (QL s) E s') :
    Run pwT w (A.deeper env) env ((stB (stN 16)).drop 9) (QL s) E s₁ := by
  have be : Bse env := henv ▸ .call rfl rfl rfl
  have hr' : Rm (A.deeper env) 19 := hr.deeper env
  have szl : sizeLine = 16777216 := rfl
  obtain ⟨hcn, hsn⟩ := cellsL (w := w) henv
  have hlen : x.cps.toList.length = x.length := by simp [Str.length]
  have hJ := joinsOf_len x
  refine .at 9 rfl ?_
  refine .assignN (.list ((RJ (joinsOf x)).map .int)) O F ?_ (by walk_at "sto") (by walk_at "kr") (by walk_at "kr") fun s₂ F₂ st₂ => .at 10 rfl ?_
  · have t' : TF w s₁.heap := by walk_at "tf"
    rw [← rowsF_J (by omega)]
    exact EV.callF (ev_g t' be (by walk_at "kr") (by kernel_rfl) (by kernel_rfl)) (.cons (by walk_at "ev") .nil rfl) (law_rows_ok t' (hr'.le (by omega)) (jn_jb (by omega) 0 (by omega)) (by omega)) (t'.fn (o := o_13_183 w.params) (by kernel_rfl) (by decide +kernel) rfl) rfl
  refine .comp1 (y := "k") [("word", n + 1)] (List.range (x.length - 1)) (fun i => .int (i : Int)) (fun _ => true) (fun i => .bool (decide (Str.mk #[x.cps.toList.getD i 0] = Str.mk #[x.cps.toList.getD (i + 1) 0]))) O F₂ ?_ (ρ' := [("word", .str x)]) (F₂.sub (ρ' := [("word", .str x)]) (by walk_at "sub")).loc (CompOk.of (by subst henv; exact fun _ => rfl) (by walk_at "kr") rfl (by kernel_rfl) (by decide) (by walk_at "kr") (by walk_at "lk") (inj_of (by simp))) rfl (by simp; omega) ?_ (by walk_at "kr") (by walk_at "sto") (by walk_at "kr") fun s₃ F₃ st₃ => .at 11 rfl ?_
  · have e : ((List.range (x.length - 1)).map fun i : Nat => [Dat.int (i : Int)]) = (List.range (((x.length : Int) - 1)).toNat).map fun i : Nat => [Dat.int (i : Int)] := by
      rw [show ((x.length : Int) - 1).toNat = x.length - 1 by omega]
    rw [e]
    refine sRange1 (by walk_at "tf") be hr'.handled (by walk_at "kr") ?_ (small_one (by decide) (by decide) (by omega) (by omega)) rfl
    walk_at "ev"
  · intro i hi C Y h' hXY hx hY hcn' L
    have hi := List.mem_range.mp hi
    refine ⟨rfl, fun _ => ?_⟩
    have g1 := get_cp (x := x) (i := (i : Int)) (by omega) (by omega)
    have g2 := get_cp (x := x) (i := (i : Int) + 1) (by omega) (by omega)
    walk_at "evc"
  rw [filter_all] at F₃
  have F₃ := F₃.re (ρ' := [("joins", .list ((joinsOf x).map .bool)), ("rows", .list ((RJ (joinsOf x)).map .int)), ("word", .str x)]) (by unfold joinsOf; rw [List.map_map]; rfl)
  generalize joinsOf x = J at F₃ hJ next
  have hjl : J.length ≤ 8 := by omega
  have mk : ∀ {T : Str} {s' : Shared}, T.length < 2 ^ 20 → TF w s'.heap → ∀ v, InitH pwT w ((A.deeper env).under (.builtin "type.__call__" ⟨[.ref 165, v], []⟩)) Ø s'.heap 120 165 (.str T) (WsAt w (wsOf T)) := fun hT t' v => init_ok t' ((hr'.le (k := 7) (by omega)).call 165 v) _ hT
  refine .make (C := 165) (fI := 120) (K := KT w.params) (d := .str (nearT J)) (P := WsAt w (wsOf (nearT J))) O F₃ (ev_g (by walk_at "tf") be (by walk_at "kr") (by kernel_rfl) (by kernel_rfl)) ?_ rfl (TF.K (by walk_at "tf")) (k_makes _) (k_keep _) (k_init _) (k_fn1 _) (mk (by have := nearT_len J; omega) (by walk_at "tf")) (fun a b x dx q k1 k2 k3 => q.keep k1 k2 k3) (by walk_at "sto") (by walk_at "kr") (by walk_at "kr") fun s₄ a da F₄ st₄ wa na nda => .at 12 rfl ?_
  · unfold nearT
    with_reducible apply EV.bin
    · with_reducible apply EV.bin
      · walk_at "ev"
      · refine cJoin (x := "") (EV.cast (EV.comp1 (y := "like") [] J .bool (fun _ => true) (fun b => .str (if b = true then (" " : Str) else "\t ")) (Src.listN J .bool hr'.handled (by walk_at "ev")) (F₃.sub (ρ' := []) (by walk_at "sub")).loc F₃.live
          (comp_nil (by subst henv; exact fun _ => rfl) (by walk_at "kr") rfl (by kernel_rfl) (by decide)) rfl (by omega) ?_) (by rw [filter_all, List.map_map]; rfl)) (joinOk_short ?_) rfl rfl rfl
        · intro b hb C Y h' hXY hx hY hcn' L
          exact ⟨rfl, fun _ => by walk_at "ev"⟩
        · rw [List.map_map]
          have := sum_le J (Str.length ∘ fun b => if b = true then (" " : Str) else "\t ") 2 fun b => by cases b <;> decide +kernel
          refine Nat.le_trans this ?_
          omega
      · have hl := nearT_len J
        unfold nearT at hl
        rw [Str.length_append, Str.length_append] at hl
        exact Bin.addS (by omega)
    · walk_at "ev"
    · have hl := nearT_len J
      unfold nearT at hl
      rw [Str.length_append] at hl
      exact Bin.addS (by omega)
  refine .make (C := 165) (fI := 120) (K := KT w.params) (d := .str (farT J)) (P := WsAt w (wsOf (farT J))) O F₄ (ev_g (by walk_at "tf") be (by walk_at "kr") (by kernel_rfl) (by kernel_rfl)) ?_ rfl (TF.K (by walk_at "tf")) (k_makes _) (k_keep _) (k_init _) (k_fn1 _) (mk (by have := farT_len J; omega) (by walk_at "tf")) (fun a b x dx q k1 k2 k3 => q.keep k1 k2 k3) (by walk_at "sto") (by walk_at "kr") (by walk_at "kr") fun s₅ b db F₅ st₅ wb nb ndb => ?_
  · unfold farT
    with_reducible apply EV.bin
    · refine cJoin (x := "") (EV.cast (EV.comp1 (y := "like") [] J .bool (fun _ => true) (fun b => .str (if b = true then (" " : Str) else "\t")) (Src.listN J .bool hr'.handled (by walk_at "ev")) (F₄.sub (ρ' := []) (by walk_at "sub")).loc F₄.live
          (comp_nil (by subst henv; exact fun _ => rfl) (by walk_at "kr") rfl (by kernel_rfl) (by decide)) rfl (by omega) ?_) (by rw [filter_all, List.map_map]; rfl)) (joinOk_short ?_) rfl rfl rfl
      · intro b hb C Y h' hXY hx hY hcn' L
        exact ⟨rfl, fun _ => by walk_at "ev"⟩
      · rw [List.map_map]
        have := sum_le J (Str.length ∘ fun b => if b = true then (" " : Str) else "\t") 2 fun b => by cases b <;> decide +kernel
        refine Nat.le_trans this ?_
        omega
    · walk_at "ev"
    · have hl := farT_len J
      unfold farT at hl
      rw [Str.length_append] at hl
      exact Bin.addS (by omega)
  rw [nearT_ws] at wa
  rw [farT_ws] at wb
  exact next s₅ a da b db F₅ (wa.stp st₅ na nda) wb na nda nb ndb
end Mine
end
end
section
open PySem PySem.W PyProof.Rows
set_option Elab.async false
set_option linter.unusedVariables false
set_option maxRecDepth 100000
set_option maxHeartbeats 2000000
noncomputable section
namespace Mine
variable {w : World} {A : Around} {X : Addr → Prop} {h : Heap} {env : Env}
theorem k_lr (P : Params) : findIn (KT P) (.ref 165) "longest_run_of_spaces" = some (some (.ref 127)) := by kernel_rfl
theorem k_il (P : Params) : findIn (KT P) (.ref 165) "indent_level" = some (some (.ref 134)) := by kernel_rfl
theorem k_fn2 (P : Params) : typeIn (KT P) (.ref 127) = some (.type "function") := by kernel_rfl
theorem k_fn3 (P : Params) : typeIn (KT P) (.ref 134) = some (.type "function") := by kernel_rfl
theorem k_keep2 (P : Params) : keepIn (KT P) (.ref 127) = true := by kernel_rfl
section
variable {R : WS} {x dx : Addr} {o e : Expr} {pos apos : Pos}
theorem ev_longest (t : TF w h) (hr : Rm A 6) (q : WsAt w R h x dx) (hn : R.cnt.length < 2 ^ 21) (ho : EV pwT w A env X h o (.val (.ref x))) (hb : attributeBase o "longest_run_of_spaces" env (eval o env) = eval o env) (hline : (apos.endLine == pos.line) = true) :
    EV pwT w A env X h (.Call (.Attribute o "longest_run_of_spaces" apos) [] [] pos) (.int (lrF R)) := by
  obtain ⟨tk, v1, v2, v3, v4, v5, a1, a2, _⟩ := id q
  exact EV.imeth0 (fd := default) ho t.K ⟨dx, a1, a2⟩ hb (k_ga _) (k_gat _) (k_lr _) (k_fn2 _) (by kernel_rfl) (k_keep2 _) (longest_ok t hr q hn) hline
theorem ev_indent {ts : Nat} (t : TF w h) (hr : Rm A 6) (q : WsAt w R h x dx) (hn : R.cnt.length < 2 ^ 21) (h0 : 0 < ts) (h1 : ts < 2 ^ 20) (ho : EV pwT w A env X h o (.val (.ref x))) (he : EV pwT w A env X h e (.int ts)) (hb : attributeBase o "indent_level" env (eval o env) = eval o env) (hline : (apos.endLine == pos.line) = true)
    (hs : starEach [e] env = [(false, eval e env)]) (hfew : methodCallForm ([e].length + ([] : List Keyword).length) (backTo pos (starEach [e] env)) (backToKw pos (keywordEach [] env)) = true) :
    EV pwT w A env X h (.Call (.Attribute o "indent_level" apos) [e] [] pos) (.int (lvF R ts)) := by
  obtain ⟨tk, v1, v2, v3, v4, v5, a1, a2, _⟩ := id q
  exact EV.imeth ho t.K ⟨dx, a1, a2⟩ hb (k_ga _) (k_gat _) (k_il _) (k_fn3 _) (by kernel_rfl) (t.fn (o := o_10_134 w.params) (by kernel_rfl) (by decide +kernel) rfl) (.cons he .nil hs) (indent_ok t hr q hn h0 h1) hfew hline hs fun _ => rfl
end
structure ChkJ (J : List Bool) : Prop where
  c1 : [((nW J).n : Int), (nW J).nt, lrF (nW J), (fW J).n, (fW J).nt, lrF (fW J)] = [(J.length : Int) + (RJ J).length, ((RJ J).length : Int) - 1, mJ J, J.length, ((RJ J).length : Int) - 1, mJ J - 1]
  c2 : wideJ J = ((szJ J).zip (chJ J)).map fun p => (p.1 : Int) * ((nW J).nt + p.2) + (lastJ J).fmod p.1
  c3 : slimJ J = ((szJ J).zip (piJ J)).map fun p => ((p.1 : Int) - 1) * ((fW J).nt + p.2) + (lastJ J - 1).fmod ((p.1 : Int) - 1)
  m1 : 1 ≤ mJ J
  m9 : mJ J ≤ 9
  rpos : 0 < (RJ J).length
  p0 : 0 ≤ (piJ J).getD 0 0
  p9 : (piJ J).getD 0 0 ≤ 9
  each : ∀ k < ((piJ J).getD 0 0 + 1).toNat, 0 < (fitJ J (chJ J) k).length ∧ 0 < (fitJ J (piJ J) k).length ∧ fdJ J k = plJ J k ++ plJ J k
theorem ChkJ.of {J : List Bool} (h : chk J = true) : ChkJ J := by
  unfold chk at h
  simp only [Bool.and_eq_true, decide_eq_true_eq, List.all_eq_true, List.mem_range] at h
  obtain ⟨h1, h2, h3, ⟨h4, h5, h6, h7, h8⟩, h9⟩ := h
  exact ⟨h1, h2, h3, h4, h5, h6, h7, h8, fun k hk => h9 k hk⟩
theorem szJ_mem {J : List Bool} (c : ChkJ J) {s : Nat} (hs : s ∈ szJ J) : 2 ≤ s ∧ s ≤ 10 := by
  unfold szJ at hs
  obtain ⟨i, hi, rfl⟩ := List.mem_map.mp hs
  have := List.mem_range.mp hi
  have := c.m9
  omega
theorem szJ_len {J : List Bool} (c : ChkJ J) : (szJ J).length ≤ 9 := by
  unfold szJ
  simp only [List.length_map, List.length_range]
  have := c.m9
  omega
theorem segC {s s₁ : Shared} {E : Value → Shared → Prop} {n : Nat} {x : Str} {a da b db : Addr} (t : TF w h) (k : At Ø h s.heap) (hr : Rm A 20) (henv : env = callEnvC (fdLaw w.params) n 202) (O : EnvOk env) (hx1 : 1 ≤ x.length) (hx9 : x.length ≤ 9) (c : ChkJ (joinsOf x))
    (F : Fm env Ø Ø s s₁ [("far", .val (.ref b)), ("near", .val (.ref a)), ("joins", .list ((joinsOf x).map .bool)), ("rows", .list ((RJ (joinsOf x)).map .int)), ("word", .str x)]) (wa : WsAt w (nW (joinsOf x)) s₁.heap a da) (wb : WsAt w (fW (joinsOf x)) s₁.heap b db)
    (na : ¬ Own env a) (nda : ¬ Own env da) (nb : ¬ Own env b) (ndb : ¬ Own env db)
    (next : ∀ s', Fm env Ø Ø s s' [("put_in", .list ((piJ (joinsOf x)).map .int)), ("changed", .list ((chJ (joinsOf x)).map .int)), ("sizes", .list ((szJ (joinsOf x)).map fun s : Nat => .int (s : Int))), ("far", .val (.ref b)), ("near", .val (.ref a)), ("rows", .list ((RJ (joinsOf x)).map .int))] → WsAt w (nW (joinsOf x)) s'.heap a da → WsAt w (fW (joinsOf x)) s'.heap b db →
      Run pwT w (A.deeper env) env ((stB (stN 16)).drop 18) (QL s) E s') :
    Run pwT w (A.deeper env) env ((stB (stN 16)).drop 13) (QL s) E s₁ := by
  have be : Bse env := henv ▸ .call rfl rfl rfl
  have hr' : Rm (A.deeper env) 19 := hr.deeper env
  have szl : sizeLine = 16777216 := rfl
  obtain ⟨hcn, hsn⟩ := cellsL (w := w) henv
  have hJ := joinsOf_len x
  have hRl := RJ_len (joinsOf x)
  have hnl := nW_len (joinsOf x)
  have hfl := fW_len (joinsOf x)
  have hsl := szJ_len c
  have hm := c.m9
  have hm1 := c.m1
  have hmax : IsMax (RJ (joinsOf x)) (mJ (joinsOf x)) := maxL_is c.rpos
  refine .at 13 rfl ?_
  refine .assignN (.list (([((nW (joinsOf x)).n : Int), (nW (joinsOf x)).nt, lrF (nW (joinsOf x)), (fW (joinsOf x)).n, (fW (joinsOf x)).nt, lrF (fW (joinsOf x))] : List Int).map .int)) O F ?_ (by walk_at "sto") (by walk_at "kr") (by walk_at "kr") fun s₂ F₂ st₂ => .at 14 rfl ?_
  · have t' : TF w s₁.heap := by walk_at "tf"
    have hr6 : Rm (A.deeper env) 6 := hr'.le (by omega)
    refine EV.list ?_ (by simp [szl])
    refine .cons (ws_n t' wa (by walk_at "ev") rfl fun _ _ => rfl) (.cons (ws_nt t' wa (by walk_at "ev") rfl fun _ _ => rfl) (.cons (ev_longest t' hr6 wa (by omega) (by walk_at "ev") rfl rfl) (.cons (ws_n t' wb (by walk_at "ev") rfl fun _ _ => rfl) (.cons (ws_nt t' wb (by walk_at "ev") rfl fun _ _ => rfl) (.cons (ev_longest t' hr6 wb (by omega) (by walk_at "ev") rfl rfl) .nil rfl) rfl) rfl) rfl) rfl) rfl
  have wa₂ := wa.stp st₂ na nda
  have wb₂ := wb.stp st₂ nb ndb
  refine .ifF F₂ ?_ fun s₃ k₃ F₃ => .at 15 rfl ?_
  · have e1 : (((joinsOf x).map Dat.bool).length : Int) = (joinsOf x).length := by simp
    have e2 : (((RJ (joinsOf x)).map Dat.int).length : Int) = (RJ (joinsOf x)).length := by simp
    refine TV.cast (TV.cmp (by walk_at "ev") (EV.cast (d' := .list (([((joinsOf x).length : Int) + (RJ (joinsOf x)).length, ((RJ (joinsOf x)).length : Int) - 1, mJ (joinsOf x), (joinsOf x).length, ((RJ (joinsOf x)).length : Int) - 1, mJ (joinsOf x) - 1] : List Int).map .int)) (d := .list [.int ((((joinsOf x).map Dat.bool).length : Int) + ((RJ (joinsOf x)).map Dat.int).length), .int ((((RJ (joinsOf x)).map Dat.int).length : Int) - 1), .int (mJ (joinsOf x)), .int (((joinsOf x).map Dat.bool).length : Int), .int ((((RJ (joinsOf x)).map Dat.int).length : Int) - 1), .int (mJ (joinsOf x) - 1)]) (by walk_at "ev") (by rw [e1, e2]; rfl)) (Cmp.neT (Tp.list Tp.int) (fun _ _ => trivial) (fun _ _ => trivial) (by have := hr'.units; omega)) rfl) ?_
    simp only [decide_eq_false_iff_not, ne_eq, Decidable.not_not]
    exact c.c1
  have wa₃ := wa₂.ext k₃.ext
  have wb₃ := wb₂.ext k₃.ext
  refine .assignN (.list ((szJ (joinsOf x)).map fun s : Nat => .int (s : Int))) O F₃ ?_ (by walk_at "sto") (by walk_at "kr") (by walk_at "kr") fun s₄ F₄ st₄ => .at 16 rfl ?_
  · have t' : TF w s₃.heap := by walk_at "tf"
    refine EV.cast (evListRange2 (a := 2) (b := mJ (joinsOf x) + 2) hr'.handled (ev_b t' be (by walk_at "kr") (by kernel_rfl)) (ev_b t' be (by walk_at "kr") (by kernel_rfl)) EV.int (by walk_at "ev") (small_one (by decide) (by decide) (by omega) (by omega)) (by omega) rfl rfl rfl) ?_
    unfold szJ
    rw [List.map_map, show mJ (joinsOf x) + 2 - 2 = mJ (joinsOf x) by omega]
    rfl
  have wa₄ := wa₃.stp st₄ na nda
  have wb₄ := wb₃.stp st₄ nb ndb
  refine .comp1 (y := "size") [("word", n + 1)] (szJ (joinsOf x)) (fun s : Nat => .int (s : Int)) (fun _ => true) (fun s => .int (minL (chG (joinsOf x) s))) O F₄ (Src.listN _ _ hr'.handled (by walk_at "ev")) (ρ' := [("word", .str x)]) (F₄.sub (ρ' := [("word", .str x)]) (by walk_at "sub")).loc (CompOk.of (by subst henv; exact fun _ => rfl) (by walk_at "kr") rfl (by kernel_rfl) (by decide) (by walk_at "kr") (by walk_at "lk") (inj_of (by simp))) rfl (by omega) ?_ (by walk_at "kr") (by walk_at "sto") (by walk_at "kr") fun s₅ F₅ st₅ => .at 17 rfl ?_
  · intro sz hsz C Y h' hXY hx hY hcn' L
    have t' : TF w h' := TF.ext (by walk_at "tf") hx
    have h2 := szJ_mem c hsz
    refine ⟨rfl, fun _ => ?_⟩
    rw [← chF_J (by omega) h2.1]
    exact EV.callF (ev_g t' (be.comp rfl) (by walk_at "kr") (by kernel_rfl) (by kernel_rfl)) (.cons (by walk_at "ev") (.cons (by walk_at "ev") .nil rfl) rfl) (law_changed_ok t' (hr'.le (by omega)) (by omega) (by omega) (by omega)) (t'.fn (o := o_14_190 w.params) (by kernel_rfl) (by decide +kernel) rfl) rfl
  have wa₅ := wa₄.stp st₅ na nda
  have wb₅ := wb₄.stp st₅ nb ndb
  refine .comp1 (y := "size") [("word", n + 1)] (szJ (joinsOf x)) (fun s : Nat => .int (s : Int)) (fun _ => true) (fun s => .int (minL (piG (joinsOf x) s))) O F₅ (Src.listN _ _ hr'.handled (by walk_at "ev")) (ρ' := [("word", .str x)]) (F₅.sub (ρ' := [("word", .str x)]) (by walk_at "sub")).loc (CompOk.of (by subst henv; exact fun _ => rfl) (by walk_at "kr") rfl (by kernel_rfl) (by decide) (by walk_at "kr") (by walk_at "lk") (inj_of (by simp))) rfl (by omega) ?_ (by walk_at "kr") (by walk_at "sto") (by walk_at "kr") fun s₆ F₆ st₆ => ?_
  · intro sz hsz C Y h' hXY hx hY hcn' L
    have t' : TF w h' := TF.ext (by walk_at "tf") hx
    have h2 := szJ_mem c hsz
    refine ⟨rfl, fun _ => ?_⟩
    rw [← piF_J (by omega) h2.1]
    exact EV.callF (ev_g t' (be.comp rfl) (by walk_at "kr") (by kernel_rfl) (by kernel_rfl)) (.cons (by walk_at "ev") (.cons (by walk_at "ev") .nil rfl) rfl) (law_put_in_ok t' (hr'.le (by omega)) (by omega) (by omega) (by omega)) (t'.fn (o := o_15_197 w.params) (by kernel_rfl) (by decide +kernel) rfl) rfl
  rw [filter_all] at F₆
  refine next s₆ ((F₆.re ?_).sub (ρ := [("put_in", .list ((piJ (joinsOf x)).map .int)), ("changed", .list ((chJ (joinsOf x)).map .int)), ("sizes", .list ((szJ (joinsOf x)).map fun s : Nat => .int (s : Int))), ("told", .list (([((nW (joinsOf x)).n : Int), (nW (joinsOf x)).nt, lrF (nW (joinsOf x)), (fW (joinsOf x)).n, (fW (joinsOf x)).nt, lrF (fW (joinsOf x))] : List Int).map .int)), ("far", .val (.ref b)), ("near", .val (.ref a)), ("joins", .list ((joinsOf x).map .bool)), ("rows", .list ((RJ (joinsOf x)).map .int)), ("word", .str x)]) (by walk_at "sub")) (wa₅.stp st₆ na nda) (wb₅.stp st₆ nb ndb)
  unfold chJ piJ
  rw [List.map_map, List.map_map]
  rfl
end Mine
end
end
section
open PySem PySem.W PyProof.Rows
set_option Elab.async false
set_option linter.unusedVariables false
set_option maxRecDepth 100000
set_option maxHeartbeats 2000000
noncomputable section
namespace Mine
variable {w : World} {A : Around} {X : Addr → Prop} {h : Heap} {env : Env}
theorem last_get {xs : List Int} (h : 0 < xs.length) : (xs.map Dat.int)[((-1 : Int) + ((xs.map Dat.int).length : Int)).toNat]? = some (.int (xs.getD (xs.length - 1) 0)) := by
  rw [List.length_map, show ((-1 : Int) + (xs.length : Int)).toNat = xs.length - 1 by omega]
  have : xs.length - 1 < xs.length := by omega
  simp [List.getD, this]
theorem stJ_sub {J : List Bool} {s : Nat} (h : s ∈ stJ J) : s ∈ szJ J := by
  unfold stJ pickL at h
  obtain ⟨i, _, e⟩ := List.mem_filterMap.mp h
  exact List.mem_of_getElem? e
theorem stJ_len {J : List Bool} (c : ChkJ J) : (stJ J).length ≤ 9 := Nat.le_trans (pickL_len _) (szJ_len c)
theorem segD {s s₁ : Shared} {E : Value → Shared → Prop} {n : Nat} {J : List Bool} {a da b db : Addr} (t : TF w h) (k : At Ø h s.heap) (hr : Rm A 20) (henv : env = callEnvC (fdLaw w.params) n 202) (O : EnvOk env) (hjl : J.length ≤ 8) (c : ChkJ J)
    (F : Fm env Ø Ø s s₁ [("put_in", .list ((piJ J).map .int)), ("changed", .list ((chJ J).map .int)), ("sizes", .list ((szJ J).map fun s : Nat => .int (s : Int))), ("far", .val (.ref b)), ("near", .val (.ref a)), ("rows", .list ((RJ J).map .int))]) (wa : WsAt w (nW J) s₁.heap a da) (wb : WsAt w (fW J) s₁.heap b db)
    (na : ¬ Own env a) (nda : ¬ Own env da) (nb : ¬ Own env b) (ndb : ¬ Own env db)
    (next : ∀ s', Fm env Ø Ø s s' [("puts", .list ((ptJ J).map .int)), ("changes", .list ((cgJ J).map .int)), ("steps", .list ((stJ J).map fun s : Nat => .int (s : Int))), ("put_in", .list ((piJ J).map .int)), ("changed", .list ((chJ J).map .int)), ("sizes", .list ((szJ J).map fun s : Nat => .int (s : Int))), ("far", .val (.ref b)), ("near", .val (.ref a))] → WsAt w (nW J) s'.heap a da → WsAt w (fW J) s'.heap b db →
      Run pwT w (A.deeper env) env ((stB (stN 16)).drop 25) (QL s) E s') :
    Run pwT w (A.deeper env) env ((stB (stN 16)).drop 18) (QL s) E s₁ := by
  have be : Bse env := henv ▸ .call rfl rfl rfl
  have hr' : Rm (A.deeper env) 19 := hr.deeper env
  have hr6 : Rm (A.deeper env) 6 := hr'.le (by omega)
  have szl : sizeLine = 16777216 := rfl
  obtain ⟨hcn, hsn⟩ := cellsL (w := w) henv
  have hRl := RJ_len J
  have hnl := nW_len J
  have hfl := fW_len J
  have hsl := szJ_len c
  have hstl := stJ_len c
  have hrp := c.rpos
  refine .at 18 rfl ?_
  refine .comp1 (y := "size") [("near", n + 6)] (szJ J) (fun s : Nat => .int (s : Int)) (fun _ => true) (fun s => .int (lvF (nW J) s)) O F (Src.listN _ _ hr'.handled (by walk_at "ev")) (ρ' := [("near", .val (.ref a))]) (F.sub (ρ' := [("near", .val (.ref a))]) (by walk_at "sub")).loc (CompOk.of (by subst henv; exact fun _ => rfl) (by walk_at "kr") rfl (by kernel_rfl) (by decide) (by walk_at "kr") (by walk_at "lk") (inj_of (by simp))) rfl (by omega) ?_ (by walk_at "kr") (by walk_at "sto") (by walk_at "kr") fun s₂ F₂ st₂ => .at 19 rfl ?_
  · intro sz hsz C Y h' hXY hx hY hcn' L
    have t' : TF w h' := TF.ext (by walk_at "tf") hx
    have h2 := szJ_mem c hsz
    exact ⟨rfl, fun _ => ev_indent t' hr6 (wa.ext hx) (by omega) (by omega) (by omega) (by walk_at "ev") (by walk_at "ev") rfl rfl rfl rfl⟩
  rw [filter_all] at F₂
  have F₂ := F₂.re (ρ' := [("wide", .list ((wideJ J).map .int)), ("put_in", .list ((piJ J).map .int)), ("changed", .list ((chJ J).map .int)), ("sizes", .list ((szJ J).map fun s : Nat => .int (s : Int))), ("far", .val (.ref b)), ("near", .val (.ref a)), ("rows", .list ((RJ J).map .int))]) (by unfold wideJ; rw [List.map_map]; rfl)
  have wa₂ := wa.stp st₂ na nda
  have wb₂ := wb.stp st₂ nb ndb
  refine .ifF F₂ ?_ fun s₃ k₃ F₃ => .at 20 rfl ?_
  · refine TV.cast (TV.cmp (by walk_at "ev") (EV.cast (d' := .list ((((szJ J).zip (chJ J)).map fun p => (p.1 : Int) * ((nW J).nt + p.2) + (lastJ J).fmod p.1).map .int)) (EV.comp2 (y := "size") (z := "cost") [("rows", n + 2), ("near", n + 6)] ((szJ J).zip (chJ J)) (fun p => .int (p.1 : Int)) (fun p => .int p.2) (fun _ => true) (fun p => .int ((p.1 : Int) * ((nW J).nt + p.2) + (lastJ J).fmod p.1)) ?_ (ρ := [("near", .val (.ref a)), ("rows", .list ((RJ J).map .int))]) (F₂.sub (by walk_at "sub")).loc F₂.live
      (CompOk.of (by subst henv; exact fun _ => rfl) (by walk_at "kr") rfl (by kernel_rfl) (by decide) (by walk_at "kr") (by walk_at "lk") (inj_of (by simp))) rfl (by simp only [List.length_zip]; omega) ?_) (by rw [filter_all, List.map_map]; rfl)) (Cmp.neT (Tp.list Tp.int) (fun _ _ => trivial) (fun _ _ => trivial) (by have := hr'.units; omega)) rfl) ?_
    · rw [← zip_map2 (fun s : Nat => .int (s : Int)) .int]
      exact sZip (by walk_at "tf") be hr'.handled (by walk_at "kr") (by walk_at "ev") (by walk_at "ev") rfl rfl rfl rfl
    · intro p hp C Y h' hXY hx hY hcn' L
      have t' : TF w h' := TF.ext (by walk_at "tf") hx
      have h2 := szJ_mem c (List.of_mem_zip hp).1
      refine ⟨rfl, fun _ => ?_⟩
      with_reducible apply EV.bin
      · with_reducible apply EV.bin
        · walk_at "ev"
        · with_reducible apply EV.bin
          · exact ws_nt t' (wa₂.ext hx) (by walk_at "ev") rfl fun _ _ => rfl
          · walk_at "ev"
          · exact Bin.addI
        · exact Bin.mulI (mulok_nat _ (by omega))
      · with_reducible apply EV.bin (a := .int (lastJ J))
        · with_reducible apply EV.sub (a := .list ((RJ J).map .int)) (b := .int (-1))
          · walk_at "ev"
          · exact EV.neg EV.int
          · exact Itm.listNeg (by decide) (by simp only [List.length_map]; omega) (by decide) (last_get hrp)
        · walk_at "ev"
        · exact Bin.modI (by omega)
      · exact Bin.addI
    · simp only [decide_eq_false_iff_not, ne_eq, Decidable.not_not]
      exact c.c2
  have wa₃ := wa₂.ext k₃.ext
  have wb₃ := wb₂.ext k₃.ext
  refine .comp1 (y := "size") [("far", n + 5)] (szJ J) (fun s : Nat => .int (s : Int)) (fun _ => true) (fun s => .int (lvF (fW J) (s - 1))) O F₃ (Src.listN _ _ hr'.handled (by walk_at "ev")) (ρ' := [("far", .val (.ref b))]) (F₃.sub (ρ' := [("far", .val (.ref b))]) (by walk_at "sub")).loc (CompOk.of (by subst henv; exact fun _ => rfl) (by walk_at "kr") rfl (by kernel_rfl) (by decide) (by walk_at "kr") (by walk_at "lk") (inj_of (by simp))) rfl (by omega) ?_ (by walk_at "kr") (by walk_at "sto") (by walk_at "kr") fun s₄ F₄ st₄ => .at 21 rfl ?_
  · intro sz hsz C Y h' hXY hx hY hcn' L
    have t' : TF w h' := TF.ext (by walk_at "tf") hx
    have h2 := szJ_mem c hsz
    refine ⟨rfl, fun _ => ev_indent t' hr6 (wb₃.ext hx) (by omega) (by omega) (by omega) (by walk_at "ev") ?_ rfl rfl rfl rfl⟩
    rw [show ((sz - 1 : Nat) : Int) = (sz : Int) - 1 by omega]
    walk_at "ev"
  rw [filter_all] at F₄
  have F₄ := F₄.re (ρ' := [("slim", .list ((slimJ J).map .int)), ("wide", .list ((wideJ J).map .int)), ("put_in", .list ((piJ J).map .int)), ("changed", .list ((chJ J).map .int)), ("sizes", .list ((szJ J).map fun s : Nat => .int (s : Int))), ("far", .val (.ref b)), ("near", .val (.ref a)), ("rows", .list ((RJ J).map .int))]) (by unfold slimJ; rw [List.map_map]; rfl)
  have wa₄ := wa₃.stp st₄ na nda
  have wb₄ := wb₃.stp st₄ nb ndb
  refine .ifF F₄ ?_ fun s₅ k₅ F₅ => .at 22 rfl ?_
  · refine TV.cast (TV.cmp (by walk_at "ev") (EV.cast (d' := .list ((((szJ J).zip (piJ J)).map fun p => ((p.1 : Int) - 1) * ((fW J).nt + p.2) + (lastJ J - 1).fmod ((p.1 : Int) - 1)).map .int)) (EV.comp2 (y := "size") (z := "cost") [("rows", n + 2), ("far", n + 5)] ((szJ J).zip (piJ J)) (fun p => .int (p.1 : Int)) (fun p => .int p.2) (fun _ => true) (fun p => .int (((p.1 : Int) - 1) * ((fW J).nt + p.2) + (lastJ J - 1).fmod ((p.1 : Int) - 1))) ?_ (ρ := [("far", .val (.ref b)), ("rows", .list ((RJ J).map .int))]) (F₄.sub (by walk_at "sub")).loc F₄.live
      (CompOk.of (by subst henv; exact fun _ => rfl) (by walk_at "kr") rfl (by kernel_rfl) (by decide) (by walk_at "kr") (by walk_at "lk") (inj_of (by simp))) rfl (by simp only [List.length_zip]; omega) ?_) (by rw [filter_all, List.map_map]; rfl)) (Cmp.neT (Tp.list Tp.int) (fun _ _ => trivial) (fun _ _ => trivial) (by have := hr'.units; omega)) rfl) ?_
    · rw [← zip_map2 (fun s : Nat => .int (s : Int)) .int]
      exact sZip (by walk_at "tf") be hr'.handled (by walk_at "kr") (by walk_at "ev") (by walk_at "ev") rfl rfl rfl rfl
    · intro p hp C Y h' hXY hx hY hcn' L
      have t' : TF w h' := TF.ext (by walk_at "tf") hx
      have h2 := szJ_mem c (List.of_mem_zip hp).1
      refine ⟨rfl, fun _ => ?_⟩
      with_reducible apply EV.bin
      · with_reducible apply EV.bin
        · walk_at "ev"
        · with_reducible apply EV.bin
          · exact ws_nt t' (wb₄.ext hx) (by walk_at "ev") rfl fun _ _ => rfl
          · walk_at "ev"
          · exact Bin.addI
        · exact Bin.mulI (by rw [show (p.1 : Int) - 1 = ((p.1 - 1 : Nat) : Int) by omega]; exact mulok_nat _ (by omega))
      · with_reducible apply EV.bin
        · with_reducible apply EV.bin (a := .int (lastJ J))
          · with_reducible apply EV.sub (a := .list ((RJ J).map .int)) (b := .int (-1))
            · walk_at "ev"
            · exact EV.neg EV.int
            · exact Itm.listNeg (by decide) (by simp only [List.length_map]; omega) (by decide) (last_get hrp)
          · walk_at "ev"
          · exact Bin.subI
        · walk_at "ev"
        · exact Bin.modI (by omega)
      · exact Bin.addI
    · simp only [decide_eq_false_iff_not, ne_eq, Decidable.not_not]
      exact c.c3
  have wa₅ := wa₄.ext k₅.ext
  have wb₅ := wb₄.ext k₅.ext
  refine .assignN (.list ((stJ J).map fun s : Nat => .int (s : Int))) O F₅ ?_ (by walk_at "sto") (by walk_at "kr") (by walk_at "kr") fun s₆ F₆ st₆ => .at 23 rfl ?_
  · unfold stJ
    rw [← pickL_map]
    with_reducible apply slice_list
    · walk_at "ev"
    · exact .none
    · exact .some (EV.neg EV.int)
    · exact .none
    · decide
    · simp only [List.length_map]; omega
  have wa₆ := wa₅.stp st₆ na nda
  have wb₆ := wb₅.stp st₆ nb ndb
  refine .comp2 (y := "size") (z := "column") [("near", n + 6)] ((stJ J).zip (wideJ J)) (fun p => .int (p.1 : Int)) (fun p => .int p.2) (fun _ => true) (fun p => .int ((nW J).nt - p.2.fdiv p.1)) O F₆ ?_ (ρ' := [("near", .val (.ref a))]) (F₆.sub (by walk_at "sub")).loc (CompOk.of (by subst henv; exact fun _ => rfl) (by walk_at "kr") rfl (by kernel_rfl) (by decide) (by walk_at "kr") (by walk_at "lk") (inj_of (by simp))) rfl (by simp only [List.length_zip]; omega) ?_ (by walk_at "kr") (by walk_at "sto") (by walk_at "kr") fun s₇ F₇ st₇ => .at 24 rfl ?_
  · rw [← zip_map2 (fun s : Nat => .int (s : Int)) .int]
    exact sZip (by walk_at "tf") be hr'.handled (by walk_at "kr") (by walk_at "ev") (by walk_at "ev") rfl rfl rfl rfl
  · intro p hp C Y h' hXY hx hY hcn' L
    have t' : TF w h' := TF.ext (by walk_at "tf") hx
    have h2 := szJ_mem c (stJ_sub (List.of_mem_zip hp).1)
    refine ⟨rfl, fun _ => ?_⟩
    with_reducible apply EV.bin
    · exact ws_nt t' (wa₆.ext hx) (by walk_at "ev") rfl fun _ _ => rfl
    · with_reducible apply EV.bin
      · walk_at "ev"
      · walk_at "ev"
      · exact Bin.divI (by omega) (PyProof.noPylong_small (by omega))
    · exact Bin.subI
  have wa₇ := wa₆.stp st₇ na nda
  have wb₇ := wb₆.stp st₇ nb ndb
  refine .comp2 (y := "size") (z := "column") [("far", n + 5)] ((stJ J).zip (slimJ J)) (fun p => .int (p.1 : Int)) (fun p => .int p.2) (fun _ => true) (fun p => .int ((fW J).nt - p.2.fdiv ((p.1 : Int) - 1))) O F₇ ?_ (ρ' := [("far", .val (.ref b))]) (F₇.sub (by walk_at "sub")).loc (CompOk.of (by subst henv; exact fun _ => rfl) (by walk_at "kr") rfl (by kernel_rfl) (by decide) (by walk_at "kr") (by walk_at "lk") (inj_of (by simp))) rfl (by simp only [List.length_zip]; omega) ?_ (by walk_at "kr") (by walk_at "sto") (by walk_at "kr") fun s₈ F₈ st₈ => ?_
  · rw [← zip_map2 (fun s : Nat => .int (s : Int)) .int]
    exact sZip (by walk_at "tf") be hr'.handled (by walk_at "kr") (by walk_at "ev") (by walk_at "ev") rfl rfl rfl rfl
  · intro p hp C Y h' hXY hx hY hcn' L
    have t' : TF w h' := TF.ext (by walk_at "tf") hx
    have h2 := szJ_mem c (stJ_sub (List.of_mem_zip hp).1)
    refine ⟨rfl, fun _ => ?_⟩
    with_reducible apply EV.bin
    · exact ws_nt t' (wb₇.ext hx) (by walk_at "ev") rfl fun _ _ => rfl
    · with_reducible apply EV.bin
      · walk_at "ev"
      · walk_at "ev"
      · exact Bin.divI (by omega) (PyProof.noPylong_small (by omega))
    · exact Bin.subI
  simp only [filter_all] at F₈
  refine next s₈ ((F₈.re ?_).sub (ρ := [("puts", .list ((ptJ J).map .int)), ("changes", .list ((cgJ J).map .int)), ("steps", .list ((stJ J).map fun s : Nat => .int (s : Int))), ("slim", .list ((slimJ J).map .int)), ("wide", .list ((wideJ J).map .int)), ("put_in", .list ((piJ J).map .int)), ("changed", .list ((chJ J).map .int)), ("sizes", .list ((szJ J).map fun s : Nat => .int (s : Int))), ("far", .val (.ref b)), ("near", .val (.ref a)), ("rows", .list ((RJ J).map .int))]) (by walk_at "sub")) (wa₇.stp st₈ na nda) (wb₇.stp st₈ nb ndb)
  unfold cgJ ptJ
  rw [List.map_map, List.map_map]
  rfl
end Mine
end
end
section
open PySem PySem.W PyProof.Rows
set_option Elab.async false
set_option linter.unusedVariables false
set_option maxRecDepth 100000
set_option maxHeartbeats 2000000
noncomputable section
namespace Mine
variable {w : World} {A : Around} {X : Addr → Prop} {h : Heap} {env : Env}
theorem TF.codeHd (t : TF w h) : CodeHd h tblC tblA :=
  ⟨o_16_201 w.params, _, _, _, _, _, _, _, _, (t.obj 201 (o_16_201 w.params) (by kernel_rfl) (by decide +kernel) (solid_cls (T := "code") rfl)).1, rfl, rfl, rfl, rfl, rfl, rfl, rfl, rfl, by decide⟩
theorem TF.bltAt (t : TF w h) : h.BuiltinsAt (mgT w.params) tblA :=
  ⟨4, boot_o_4 w.params, by kernel_rfl, by decide, by decide, by decide, (t.obj 4 (boot_o_4 w.params) (by kernel_rfl) (by decide +kernel) (solid_not (by kernel_rfl))).1, by kernel_rfl, by kernel_rfl, by kernel_rfl⟩
theorem Loc.cellOf {ρ : List (Str × Dat)} {x : Str} {d : Dat} {c : Addr} (L : Loc env X h ρ) (q : (x, d) ∈ ρ) (hk : env.kindOf x = some .cell) (hc : env.cells.lookup x = some c) : ∃ v, h.IsCell c (some v) ∧ Rd X h v d := by
  obtain ⟨μ, G, K⟩ := L.st
  obtain ⟨v, e, r⟩ := K _ q
  exact ⟨v, e ▸ G.cell x c (.inl hk) hc, r⟩
theorem FnH.lam1 {f a c : Addr} {params : Arguments} {body : Expr} {scope : Scope} {x y : Str} {d' : Dat} {i : Int} (hf : LamAt h f params body scope [(y, c)]) (hlim : h.NoLimit) (hroom : A.depth < recursionLimit)
    (hco : scope.isCoroutine = false) (hgen : scope.isGenerator = false) (hk : scope.kind = .function) (hcell : ∀ z ∈ scope.names, z.2 ≠ .cell) (hloc : scope.names.lookup x = some .local) (hfree : scope.names.lookup y = some .free)
    (hbind : ∀ pm cv ct v, bindArgs (lamFn tblQ params body scope [(y, c)] pm cv ct) ⟨[v], []⟩ = pure [(x, v)])
    (hcap : ∃ v, h.IsCell c (some v) ∧ Rd X h v (.val (.ref a)))
    (hbody : ∀ (L : Addr) (cv : Value) (h' : Heap), Ext h h' → Live X h' → CellN (lamEnv scope L f cv [(y, c)]) [(y, c)] → Loc (lamEnv scope L f cv [(y, c)]) X h' [(x, .int i), (y, .val (.ref a))] → EV prog w (A.deeper (lamEnv scope L f cv [(y, c)])) (lamEnv scope L f cv [(y, c)]) X h' body d') :
    FnH prog w A X h (.ref f) [.int i] d' := by
  obtain ⟨v, hv, rv⟩ := hcap
  have one : ∀ z b, [(y, c)].lookup z = some b → z = y ∧ b = c := fun z b e => by
    simp only [List.lookup_cons, List.lookup_nil] at e
    split at e
    · rename_i q; cases e; exact ⟨eq_of_beq q, rfl⟩
    · cases e
  refine FnH.lam (ρc := [(y, .val (.ref a))]) hf hlim hroom hco hgen hk hcell hloc hbind (fun z b e => ?_) (fun z b e => ?_) (fun z z' b e e' => ?_) (fun p hp => ?_) (fun L cv h' hx hl q => hbody L cv h' hx hl (fun p hp => ?_) q)
  · obtain ⟨rfl, rfl⟩ := one z b e; exact ⟨_, hv⟩
  · obtain ⟨rfl, rfl⟩ := one z b e; exact hfree
  · rw [(one z b e).1, (one z' b e').1]
  · rw [List.mem_singleton.mp hp]
    exact ⟨c, v, by simp, hv, rv⟩
  · rw [List.mem_singleton.mp hp]
    exact Rea.free hfree (by show ([(y, c)].lookup y).isSome = true; simp)
theorem Ifs.one {prog : Program} {e : Expr} {b : Bool} (x : TV prog w A env X h e b) : Ifs prog w A env X h [e] b := x
noncomputable def gNI (J : List Bool) (y : Int) : Int := (nW J).nt - (lvF (nW J) y.toNat).fdiv y
noncomputable def gFI (J : List Bool) (y : Int) : Int := (fW J).nt - (lvF (fW J) (y.toNat - 1)).fdiv (y - 1)
theorem getD_cast (l : List Nat) (i : Nat) : (l.map fun s : Nat => (s : Int)).getD i 0 = ((l.getD i 0 : Nat) : Int) := by
  simp only [List.getD, List.getElem?_map]
  cases l[i]? <;> rfl
theorem gNI_cast (J : List Bool) (s : Nat) : gNI J (s : Int) = gN J s := by unfold gNI gN; rw [Int.toNat_natCast]
theorem gFI_cast (J : List Bool) (s : Nat) : gFI J (s : Int) = gF J s := by unfold gFI gF; rw [Int.toNat_natCast]
theorem minL_is' {l : List Int} (h : 0 < l.length) : IsMin l (minL l) := minL_is h
theorem ptJ_len {J : List Bool} (c : ChkJ J) : (ptJ J).length ≤ 9 := by
  unfold ptJ; simp only [List.length_map, List.length_zip]; have := stJ_len c; omega
theorem cgJ_len {J : List Bool} (c : ChkJ J) : (cgJ J).length ≤ 9 := by
  unfold cgJ; simp only [List.length_map, List.length_zip]; have := stJ_len c; omega
noncomputable def ρE (J : List Bool) (a b : Addr) : List (Str × Dat) := [("puts", .list ((ptJ J).map .int)), ("changes", .list ((cgJ J).map .int)), ("steps", .list ((stJ J).map fun s : Nat => .int (s : Int))), ("put_in", .list ((piJ J).map .int)), ("changed", .list ((chJ J).map .int)), ("sizes", .list ((szJ J).map fun s : Nat => .int (s : Int))), ("far", .val (.ref b)), ("near", .val (.ref a))]
theorem segE {s s₁ : Shared} {E : Value → Shared → Prop} {n : Nat} {J : List Bool} {a da b db : Addr} (t : TF w h) (k : At Ø h s.heap) (hr : Rm A 20) (henv : env = callEnvC (fdLaw w.params) n 202) (O : EnvOk env) (hjl : J.length ≤ 8) (c : ChkJ J)
    (F : Fm env Ø Ø s s₁ (ρE J a b)) (wa : WsAt w (nW J) s₁.heap a da) (wb : WsAt w (fW J) s₁.heap b db)
    (na : ¬ Own env a) (nda : ¬ Own env da) (nb : ¬ Own env b) (ndb : ¬ Own env db) :
    Run pwT w (A.deeper env) env ((stB (stN 16)).drop 25) (QL s) E s₁ := by
  have be : Bse env := henv ▸ .call rfl rfl rfl
  have hr' : Rm (A.deeper env) 19 := hr.deeper env
  have hr6 : Rm (A.deeper env) 6 := hr'.le (by omega)
  have szl : sizeLine = 16777216 := rfl
  obtain ⟨hcn, hsn⟩ := cellsL (w := w) henv
  have hnl := nW_len J
  have hfl := fW_len J
  have hsl := szJ_len c
  have hstl := stJ_len c
  have hptl := ptJ_len c
  have hcgl := cgJ_len c
  have hp0 := c.p0
  have hp9 := c.p9
  have hpl : (piJ J).length = (szJ J).length := by unfold piJ; simp
  have hpos : 0 < (piJ J).length := by
    rw [hpl]; unfold szJ
    simp only [List.length_map, List.length_range]
    have := c.m1; omega
  refine .at 25 rfl ?_
  have g0 := get_int (xs := piJ J) (i := 0) (by decide) (by omega)
  unfold ρE at F
  refine .forR (ι := Unit) () (fun _ => Ø) (fun _ => Ø) (ds := (List.range ((piJ J).getD 0 0 + 1).toNat).map fun i : Nat => Dat.int (i : Int)) (fun _ _ => ρE J a b) (fun _ _ _ => True) (fun _ _ z => z) O F (by walk_at "sto") (wRange1 (i := (piJ J).getD 0 0 + 1) (by walk_at "tf") be hr'.handled (by walk_at "kr") ?_ (small_one (by decide) (by decide) (by omega) (by omega)) rfl) trivial (fun _ _ _ _ _ z => z.elim) (fun _ _ _ _ _ z => z.elim) (fun _ _ _ _ _ _ _ => trivial) ?_ ?_ (by subst henv; exact fun _ => rfl)
  · walk_at "evc"
  · intro i d r s₂ E' hd F₂ _ sp₂
    obtain ⟨hi, rfl⟩ : i < ((piJ J).getD 0 0 + 1).toNat ∧ d = .int (i : Int) := by
      obtain ⟨h1, h2⟩ := List.getElem?_eq_some_iff.mp hd
      simp only [List.length_map, List.length_range] at h1
      exact ⟨h1, by rw [← h2]; simp⟩
    obtain ⟨e1, e2, e3⟩ := c.each i hi
    have wa₂ := wa.stp sp₂ na nda
    have wb₂ := wb.stp sp₂ nb ndb
    unfold ρE at F₂
    have F₂ := F₂.re (ρ' := ("k", .int (i : Int)) :: ρE J a b) (by kernel_rfl)
    unfold ρE at F₂
    refine .comp1 (y := "costs") [("sizes", n + 4), ("k", n + 3)] [chJ J, piJ J] (fun cs => .list (cs.map .int)) (fun _ => true) (fun cs => .int (minL (fitJ J cs i) - 2)) O F₂ (Src.listN _ _ hr'.handled (by walk_at "evc")) (ρ' := [("sizes", .list ((szJ J).map fun s : Nat => .int (s : Int))), ("k", .int (i : Int))]) (F₂.sub (by walk_at "sub")).loc (CompOk.of (by subst henv; exact fun _ => rfl) (by walk_at "kr") rfl (by kernel_rfl) (by decide) (by walk_at "kr") (by walk_at "lk") (inj_of (by simp))) rfl (by simp [szl]) ?_ (by walk_at "kr") (by walk_at "sto") (by walk_at "kr") fun s₃ F₃ st₃ => ?_
    · intro cs hcs C Y h' hXY hx hY hcn' L
      have t' : TF w h' := TF.ext (by walk_at "tf") hx
      have hfit : 0 < (fitJ J cs i).length := by
        simp only [List.mem_cons, List.not_mem_nil, or_false] at hcs
        rcases hcs with rfl | rfl
        · exact e1
        · exact e2
      refine ⟨rfl, fun _ => ?_⟩
      with_reducible apply EV.bin
      · refine cMin (xs := fitJ J cs i) t' (be.comp rfl) hr'.handled (by walk_at "kr") (EV.cast (EV.comp2 (y := "size") (z := "cost") [("k", n + 3)] ((szJ J).zip cs) (fun p => .int (p.1 : Int)) (fun p => .int p.2) (fun p => decide (p.2 ≤ (i : Int))) (fun p => .int (p.1 : Int)) ?_ (ρ := [("k", .int (i : Int))]) (L.sub (by walk_at "sub")) hY (CompOk.of (fun _ => rfl) (by walk_at "kr") rfl (by kernel_rfl) (by decide) (by walk_at "kr") (by walk_at "lk") (inj_of (by simp))) rfl (by simp only [List.length_zip]; omega) ?_) (by unfold fitJ; rw [List.map_map]; rfl)) (minL_is hfit) rfl
        · rw [← zip_map2 (fun s : Nat => .int (s : Int)) .int]
          exact sZip t' (be.comp rfl) hr'.handled (by walk_at "kr") (by walk_at "ev") (by walk_at "ev") rfl rfl rfl rfl
        · intro p hp C' Y' h'' hXY' hx' hY' hcn'' L'
          exact ⟨Ifs.one (by walk_at "tv"), fun _ => by walk_at "ev"⟩
      · walk_at "ev"
      · walk_at "op"
    rw [filter_all] at F₃
    have F₃ := F₃.re (ρ' := ("places", .list ((plJ J i).map .int)) :: ("k", .int (i : Int)) :: ρE J a b) rfl
    unfold ρE at F₃
    have wa₃ := wa₂.stp st₃ na nda
    have wb₃ := wb₂.stp st₃ nb ndb
    have t₃ : TF w s₃.heap := by walk_at "tf"
    have kN : env.kindOf "near" = some .cell := by walk_at "kr"
    have kF : env.kindOf "far" = some .cell := by walk_at "kr"
    have lN : env.cells.lookup ("near" : Str) = some (n + 6) := by walk_at "kr"
    have lF : env.cells.lookup ("far" : Str) = some (n + 5) := by walk_at "kr"
    have hd1 : IsDef s₃.heap 103 _ := t₃.fn (o := o_8_103 w.params) (by kernel_rfl) (by decide +kernel) rfl
    have hd2 : IsDef s₃.heap 94 _ := t₃.fn (o := o_7_94 w.params) (by kernel_rfl) (by decide +kernel) rfl
    refine .assignN (.list (((fdJ J i).take 2).map .int)) O F₃ ?_ (by walk_at "sto") (by walk_at "kr") (by walk_at "kr") fun s₄ F₄ st₄ => ?_
    · refine EV.list (ds := [.int (halve (fun j => decide (gN J ((stJ J).getD j 0) < -(i : Int))) (stJ J).length 0 (stJ J).length : Nat), .int (halve (fun j => decide ((ptJ J).getD j 0 < -(i : Int))) (ptJ J).length 0 (ptJ J).length : Nat)]) (.cons ?_ (.cons ?_ .nil rfl) rfl) (by simp [szl])
      · refine EV.callLam (ds := [.list (((stJ J).map fun s : Nat => (s : Int)).map .int), .int (-(i : Int))]) (clos := [("near", n + 6)]) (ev_g t₃ be (by walk_at "kr") (by kernel_rfl) (by kernel_rfl)) (.cons (EV.cast (by walk_at "ev") (by rw [List.map_map]; rfl)) (.cons (by walk_at "ev") .nil rfl) rfl)
          (by walk_at "kr") (by walk_at "kr") t₃.glob (by walk_at "kr") (by walk_at "kr") rfl t₃.codeHd (fun h' hx => (t₃.ext hx).codeHd) (fun h' hx => (t₃.ext hx).bltAt) (by decide) (fun h' f hx hl => ?_) hd1 rfl
        obtain ⟨fdf, hdf⟩ := hl.isDef
        have hb := bisect_left_key_ok (A := A.deeper env) (X := Ø) (t₃.ext hx) (hr'.le (by omega)) (xs := (stJ J).map fun s : Nat => (s : Int)) (x := -(i : Int)) (g := gNI J) hdf (fun env' y hy => ?_) (by rw [List.length_map]; omega)
        · have e : (fun j => decide (gNI J (((stJ J).map fun s : Nat => (s : Int)).getD j 0) < -(i : Int))) = fun j => decide (gN J ((stJ J).getD j 0) < -(i : Int)) := by
            funext j; rw [getD_cast, gNI_cast]
          rw [e, List.length_map] at hb
          exact hb
        · obtain ⟨sz, hsz, rfl⟩ := List.mem_map.mp hy
          have h2 := szJ_mem c (stJ_sub hsz)
          refine FnH.lam1 (x := "size") (a := a) hl (t₃.ext hx).lim (hr'.deeper env').room rfl rfl rfl (by decide +kernel) (by kernel_rfl) (by kernel_rfl) (fun pm cv ct v => by kernel_rfl) ?_ fun L cv h'' hx' hl' hcn' Lc => ?_
          · obtain ⟨v, hv, rv⟩ := F₃.loc.cellOf (x := "near") (d := .val (.ref a)) (by walk_at "mem") kN lN
            exact ⟨v, IsCell.ext hx hv, rv.ext hx⟩
          · have t'' := (t₃.ext hx).ext hx'
            have wl := (wa₃.ext hx).ext hx'
            rw [gNI_cast]
            unfold gN
            with_reducible apply EV.bin
            · exact ws_nt t'' wl (by walk_at "ev") rfl fun _ _ => rfl
            · with_reducible apply EV.bin
              · exact ev_indent (ts := sz) t'' (((hr'.deeper env').deeper _).le (by omega)) wl (by omega) (by omega) (by omega) (by walk_at "ev") (by walk_at "ev") rfl rfl rfl rfl
              · walk_at "ev"
              · exact Bin.divI (by omega) (PyProof.noPylong_small (by omega))
            · exact Bin.subI
      · exact EV.callF (ds := [.list ((ptJ J).map .int), .int (-(i : Int))]) (ev_g t₃ be (by walk_at "kr") (by kernel_rfl) (by kernel_rfl)) (.cons (by walk_at "ev") (.cons (by walk_at "ev") .nil rfl) rfl) (bisect_left_ok t₃ (hr'.le (by omega)) (by omega)) hd1 rfl
    have F₄ := F₄
    have wa₄ := wa₃.stp st₄ na nda
    have wb₄ := wb₃.stp st₄ nb ndb
    refine .assign (.list (((fdJ J i).take 3).map .int)) O F₄ ?_ (by walk_at "sto") (by walk_at "kr") fun s₅ F₅ st₅ => ?_
    · have t₄ : TF w s₄.heap := t.ext (k.ext.trans F₄.same.ext)
      have hd2 : IsDef s₄.heap 94 _ := t₄.fn (o := o_7_94 w.params) (by kernel_rfl) (by decide +kernel) rfl
      refine EV.cast (d := .list (((fdJ J i).take 2).map .int ++ [.int (halve (fun j => !decide (-(i : Int) - 1 < (cgJ J).getD j 0)) (cgJ J).length 0 (cgJ J).length : Nat)])) ?_ rfl
      with_reducible apply EV.bin
      · walk_at "ev"
      · refine EV.list (.cons (EV.callF (ds := [.list ((cgJ J).map .int), .int (-(i : Int) - 1)]) (ev_g t₄ be (by walk_at "kr") (by kernel_rfl) (by kernel_rfl)) (.cons (by walk_at "ev") (.cons (by walk_at "ev") .nil rfl) rfl) (bisect_right_ok t₄ (hr'.le (by omega)) (by omega)) hd2 rfl) .nil rfl) (by simp [szl])
      · exact Bin.addL (by simp [fdJ, szl])
    have wa₅ := wa₄.stp st₅ na nda
    have wb₅ := wb₄.stp st₅ nb ndb
    have F₅ := F₅.sub (ρ' := ("found", .list (((fdJ J i).take 3).map .int)) :: ("places", .list ((plJ J i).map .int)) :: ("k", .int (i : Int)) :: ρE J a b) (by unfold ρE; walk_at "sub")
    unfold ρE at F₅
    have t₅ : TF w s₅.heap := t.ext (k.ext.trans F₅.same.ext)
    have hd5 : IsDef s₅.heap 94 _ := t₅.fn (o := o_7_94 w.params) (by kernel_rfl) (by decide +kernel) rfl
    refine .assign (.list ((fdJ J i).map .int)) O F₅ ?_ (by walk_at "sto") (by walk_at "kr") fun s₆ F₆ st₆ => ?_
    · refine EV.cast (d := .list (((fdJ J i).take 3).map .int ++ [.int (halve (fun j => !decide (-(i : Int) - 1 < gF J ((stJ J).getD j 0))) (stJ J).length 0 (stJ J).length : Nat)])) ?_ rfl
      with_reducible apply EV.bin
      · walk_at "ev"
      · refine EV.list (ds := [.int (halve (fun j => !decide (-(i : Int) - 1 < gF J ((stJ J).getD j 0))) (stJ J).length 0 (stJ J).length : Nat)]) (.cons ?_ .nil rfl) (by simp [szl])
        refine EV.callLam (ds := [.list (((stJ J).map fun s : Nat => (s : Int)).map .int), .int (-(i : Int) - 1)]) (clos := [("far", n + 5)]) (ev_g t₅ be (by walk_at "kr") (by kernel_rfl) (by kernel_rfl)) (.cons (EV.cast (by walk_at "ev") (by rw [List.map_map]; rfl)) (.cons (by walk_at "ev") .nil rfl) rfl)
          (by walk_at "kr") (by walk_at "kr") t₅.glob (by walk_at "kr") (by walk_at "kr") rfl t₅.codeHd (fun h' hx => (t₅.ext hx).codeHd) (fun h' hx => (t₅.ext hx).bltAt) (by decide) (fun h' f hx hl => ?_) hd5 rfl
        obtain ⟨fdf, hdf⟩ := hl.isDef
        have hb := bisect_right_key_ok (A := A.deeper env) (X := Ø) (t₅.ext hx) (hr'.le (by omega)) (xs := (stJ J).map fun s : Nat => (s : Int)) (x := -(i : Int) - 1) (g := gFI J) hdf (fun env' y hy => ?_) (by rw [List.length_map]; omega)
        · have e : (fun j => !decide (-(i : Int) - 1 < gFI J (((stJ J).map fun s : Nat => (s : Int)).getD j 0))) = fun j => !decide (-(i : Int) - 1 < gF J ((stJ J).getD j 0)) := by
            funext j; rw [getD_cast, gFI_cast]
          rw [e, List.length_map] at hb
          exact hb
        · obtain ⟨sz, hsz, rfl⟩ := List.mem_map.mp hy
          have h2 := szJ_mem c (stJ_sub hsz)
          refine FnH.lam1 (x := "size") (a := b) hl (t₅.ext hx).lim (hr'.deeper env').room rfl rfl rfl (by decide +kernel) (by kernel_rfl) (by kernel_rfl) (fun pm cv ct v => by kernel_rfl) ?_ fun L cv h'' hx' hl' hcn' Lc => ?_
          · obtain ⟨v, hv, rv⟩ := F₅.loc.cellOf (x := "far") (d := .val (.ref b)) (by walk_at "mem") kF lF
            exact ⟨v, IsCell.ext hx hv, rv.ext hx⟩
          · have t'' := (t₅.ext hx).ext hx'
            have wl := (wb₅.ext hx).ext hx'
            rw [gFI_cast]
            unfold gF
            with_reducible apply EV.bin
            · exact ws_nt t'' wl (by walk_at "ev") rfl fun _ _ => rfl
            · with_reducible apply EV.bin
              · refine ev_indent (ts := sz - 1) t'' (((hr'.deeper env').deeper _).le (by omega)) wl (by omega) (by omega) (by omega) (by walk_at "ev") ?_ rfl rfl rfl rfl
                rw [show ((sz - 1 : Nat) : Int) = (sz : Int) - 1 by omega]
                walk_at "ev"
              · walk_at "ev"
              · exact Bin.divI (by omega) (PyProof.noPylong_small (by omega))
            · exact Bin.subI
      · exact Bin.addL (by simp [fdJ, szl])
    have F₆ := F₆.sub (ρ' := ("found", .list ((fdJ J i).map .int)) :: ("places", .list ((plJ J i).map .int)) :: ("k", .int (i : Int)) :: ρE J a b) (by unfold ρE; walk_at "sub")
    unfold ρE at F₆
    refine .ifF F₆ ?_ fun s₇ k₇ F₇ => .nil ⟨?_, (), F₇.sub (by unfold ρE; walk_at "sub"), trivial⟩
    · refine TV.cast (TV.bop (AllT.or_cons (b := false) ?_ fun _ => AllT.or_cons (b := false) ?_ fun _ => AllT.or_nil)) rfl
      · refine TV.cast (TV.cmp (by walk_at "ev") (EV.cast (d' := .list ((plJ J i ++ plJ J i).map .int)) (EV.bin (by walk_at "ev") (by walk_at "ev") (Bin.addL (by simp [plJ, szl]))) (by rw [List.map_append])) (Cmp.neT (Tp.list Tp.int) (fun _ _ => trivial) (fun _ _ => trivial) (by have := hr'.units; omega)) rfl) ?_
        simp only [decide_eq_false_iff_not, ne_eq, Decidable.not_not]
        exact e3
      · refine TV.cast (TV.cmp (EV.cast (d' := .list (([] : List Int).map .int)) (EV.comp1 (y := "one") [] (fdJ J i) .int (fun _ => false) .int (Src.listN _ _ hr'.handled (by walk_at "ev")) (F₆.sub (ρ' := []) (by walk_at "sub")).loc F₆.live
          (comp_nil (by subst henv; exact fun _ => rfl) (by walk_at "kr") rfl (by kernel_rfl) (by decide)) rfl (by simp [fdJ, szl]) ?_) (by simp)) (EV.list .nil (by decide)) (Cmp.neT (Tp.list Tp.int) (a := []) (b := []) (fun _ _ => trivial) (fun _ _ => trivial) (by have := hr'.units; omega)) rfl) (by simp)
        intro y hy C Y h' hXY hx hY hcn' L
        have t' : TF w h' := TF.ext (t.ext (k.ext.trans F₆.same.ext)) hx
        exact ⟨Ifs.one (TV.of_value (EV.callB (ev_b t' (be.comp rfl) (by walk_at "kr") (by kernel_rfl)) (.cons (by walk_at "ev") (.cons (ev_b t' (be.comp rfl) (by walk_at "kr") (by kernel_rfl)) .nil rfl) rfl) Fn.intBool rfl fun _ => rfl) fun _ => rfl), fun q => by cases q⟩
    · exact (((st₃.trans st₄).trans st₅).trans st₆).trans (Stp.of k₇)
  · intro s₂ r F₂ _ st₂
    refine .at 26 rfl (.ret (.bool true) F₂ EV.bool fun v s' q k₁ _ => ⟨q, k₁⟩)
end Mine
end
end
section
open PySem PySem.W PyProof.Rows
set_option Elab.async false
set_option linter.unusedVariables false
set_option maxRecDepth 100000
set_option maxHeartbeats 2000000
noncomputable section
namespace Mine
variable {w : World} {A : Around} {X : Addr → Prop} {h : Heap} {env : Env}
noncomputable def cellsL2 (n : Nat) : List (Str × Addr) := [("near", n + 5), ("far", n + 4), ("sizes", n + 3), ("k", n + 2), ("rows", n + 1), ("word", n)]
theorem cellsAt (n : Nat) : cellsFrom n (stS (stN 16)).names [] = cellsL2 n := by kernel_rfl
theorem law_ok (chkd : ∀ J : List Bool, J.length ≤ 8 → chk J = true) (t : TF w h) (hr : Rm A 20) {ns : List Int} (hn : ns.length ≤ 63) : FnH pwT w A Ø h (.ref 202) [.list (ns.map .int)] (.bool true) := by
  have hd : IsDef h 202 (fdLaw w.params) := t.fn (o := o_16_202 w.params) (by kernel_rfl) (by decide +kernel) rfl
  have hc : CodeS h (.ref 201) (Str.ofString "law") := t.code (o := o_16_201 w.params) (by kernel_rfl) (by decide +kernel) rfl ⟨_, _, rfl, rfl⟩
  refine FnH.introR (xs := ["script"]) hd hr.room t.lim hc rfl rfl (by decide) ?_ rfl ?_ ?_ ?_ rfl rfl rfl
  · intro s vs _ hl
    match vs, hl with
    | [v], _ => kernel_rfl
  · intro y hy n
    rw [List.mem_singleton.mp hy]
    exact .inl (by kernel_rfl)
  · intro s s₁ E env henv k O F
    have F := F.re (ρ' := [("script", .list (ns.map .int))]) rfl
    have hw := word_len ns
    have hJ := joinsOf_len (wordOf ns)
    have c := ChkJ.of (chkd (joinsOf (wordOf ns)) (by omega))
    refine .from (segA t k hr henv O hn F fun s₂ F₂ => ?_)
    refine segB t k hr henv O hw.1 hw.2 F₂ fun s₃ a da b db F₃ wa wb na nda nb ndb => ?_
    refine segC t k hr henv O hw.1 hw.2 c F₃ wa wb na nda nb ndb fun s₄ F₄ wa₄ wb₄ => ?_
    refine segD t k hr henv O (by omega) c F₄ wa₄ wb₄ na nda nb ndb fun s₅ F₅ wa₅ wb₅ => ?_
    exact segE t k hr henv O (by omega) c F₅ wa₅ wb₅ na nda nb ndb
  · intro n x c hx
    have hx : List.lookup x (cellsL2 n) = some c := by rw [← cellsAt]; exact hx
    have hm := PySem.mem_of_lookup hx
    unfold cellsL2 at hm
    have : ∀ y ∈ (["near", "far", "sizes", "k", "rows", "word"] : List Str), (stS (stN 16)).names.lookup y = some .cell := by decide +kernel
    refine this x ?_
    simp only [List.mem_cons, Prod.mk.injEq, List.not_mem_nil, or_false] at hm ⊢
    rcases hm with ⟨e, _⟩ | ⟨e, _⟩ | ⟨e, _⟩ | ⟨e, _⟩ | ⟨e, _⟩ | ⟨e, _⟩ <;> simp [e]
end Mine
end
end
section
open PySem PySem.W PyProof.Rows
set_option Elab.async false
set_option linter.unusedVariables false
set_option maxRecDepth 100000
set_option maxHeartbeats 2000000
noncomputable section
namespace Mine
theorem TF.ofG {R : WRecords} {w : World} {s₀ : Shared} {mg mb : Str → Option Value} {h : Heap} (G : Ground qT looseT R (fun _ _ => True) w s₀ mg mb h) (Y : YPT w h) : TF w h :=
  ⟨fun a o e m s => ⟨Y a m o e, s⟩, ⟨mb, G.T.b, G.T.builtins⟩, G.T.nolimit⟩
theorem Tab.ofY {w : World} {h : Heap} (Y : YPT w h) : TabAt h #[] :=
  ⟨Y tblA (by decide +kernel) (tabObj #[]) (by kernel_rfl), trivial, fun pos cv e => by cases e⟩
theorem isTab {w : World} {h : Heap} (Y : YPT w h) : isCodeTable h tblA :=
  ⟨tblC, o_16_201 w.params, _, Y tblC (by decide +kernel) (o_16_201 w.params) (by kernel_rfl), rfl, rfl, rfl⟩
theorem oldK_of {w : World} {h h' : Heap} (Y : YPT w h) (k : Ext h h') : OldK h h' := by
  obtain ⟨more, t'⟩ := k.tab _ (Tab.ofY Y)
  have tb := Tab.ofY Y
  refine ⟨fun b o e => ?_, fun b o e => ?_⟩
  · by_cases hb : b = tblA
    · subst hb
      rw [tb.get] at e; cases e
      exact .inr (.inl ⟨isTab Y, rfl, #[], more, rfl, t'.get⟩)
    · exact .inl (k.kept b o ⟨e, .inl hb⟩).1
  · by_cases hb : b = tblA
    · subst hb; exact ⟨_, t'.get⟩
    · exact ⟨o, (k.kept b o ⟨e, .inl hb⟩).1⟩
theorem ns_eq {h : Heap} {a : Addr} {m m' : Str → Option Value} (x : h.Ns a m) (y : h.Ns a m') : m = m' := by
  obtain ⟨o, es, ep, e, d, _, f⟩ := x
  obtain ⟨o', es', ep', e', d', _, f'⟩ := y
  rw [e] at e'; cases e'
  rw [d] at d'; cases d'
  funext z
  exact (f z).symm.trans (f' z)
theorem rd_ints {h : Heap} {vs : List Value} {ns : List Int} (x : PyProof.Rows.IntsAre vs ns) : RdL Ø h vs (ns.map .int) := by
  induction x with
  | nil => exact .nil
  | cons _ _ _ ih => exact .cons (.int _ _) ih
theorem rm_caller : Rm callerA 20 := ⟨rfl, by decide +kernel, by decide +kernel⟩
theorem call_ok {w : World} {s₀ s₁ : Shared} {mg mb : Str → Option Value} (G : Ground qT looseT PySem.Challenge.rw_rw0123_02.row.records (fun _ _ => True) w s₀ mg mb s₁.heap) (Y : YPT w s₁.heap) {a l : Addr} {vs : List Value} {ns : List Int} (hmg : mg (Str.ofString "law") = some (.ref a)) (hg : s₁.gens = #[])
    (hl : s₁.heap.get? l = some { cls := .type "list", data := .seq vs.toArray }) (hi : PyProof.Rows.IntsAre vs ns) (hn : ns.length ≤ 63) :
    wpAny (model pwT w) callerA (call (.ref a) [.ref l]) (fun v s' => v = .bool true ∧ OldK s₁.heap s'.heap ∧ s'.os = s₁.os ∧ s'.gens = #[]) (fun _ _ => False) s₁ := by
  have t := TF.ofG G Y
  have e : mg = mgT w.params := ns_eq G.T.g t.glob
  have ea : a = 202 := by
    rw [e] at hmg
    have : mgT w.params (Str.ofString "law") = some (.ref 202) := by kernel_rfl
    rw [this] at hmg; cases hmg; rfl
  subst ea
  have r := law_ok all_chk t rm_caller hn s₁ (fun _ _ => False) [.ref l] (At.here (.none ⟨_, Tab.ofY Y⟩)) (.cons (.ofList (fun z => z) ⟨0, hl⟩ (rd_ints hi)) .nil)
  refine wpAny_mono r (fun v s' q => ?_) fun _ _ e => e
  obtain ⟨q, k⟩ := q
  cases q
  have ko := oldK_of Y k.ext
  obtain ⟨h', tk, rfl, _⟩ := k
  exact ⟨rfl, ko, rfl, hg⟩
end Mine
end
end
section
open PySem PySem.W PyProof.Rows
set_option Elab.async false
set_option linter.unusedVariables false
namespace Mine
theorem plain_of {P : Params} {h : Heap} {l : Addr} {xs : List PyData} (x : Well P h (.ref l) (ofPy (PyData.list xs))) {vs : List Value} (y : h.IsList l vs.toArray) : h.get? l = some { cls := .type "list", data := .seq vs.toArray } := by
  have x' : Well P h (.ref l) (.list (ofPys xs)) := x
  cases x' with
  | list e _ =>
    obtain ⟨o, e', _, n, d⟩ := y
    rw [e] at e'; cases e'
    injection d with d1 d2
    rw [← d1]; exact e
noncomputable def stPos : Stmt → Pos
  | .FunctionDef _ _ _ _ _ _ _ _ _ p => p
  | _ => default
noncomputable def lawD : DefRec := ⟨Str.ofString "law", stP (stN 16), stB (stN 16), stS (stN 16), stPos (stN 16)⟩
theorem law_said : OpenLaw.wellSaid PySem.Challenge.rw_rw0123_02 = true := by kernel_rfl
theorem law_def : defOf qT (PySem.Challenge.rw_rw0123_02.row.name) = some (lawD, []) := by kernel_rfl
theorem law_the : PySem.Challenge.rw_rw0123_02.row.prog.theDef PySem.Challenge.rw_rw0123_02.row.name = some (lawD.params, lawD.body, lawD.scope) := by kernel_rfl
theorem law_kw : kwWritten? lawD.params.kwonlyargs lawD.params.kw_defaults = some [] := by kernel_rfl
theorem post_true {args : List WData} : PySem.Challenge.rw_rw0123_02.row.claim.post args (.bool true) args = true := by kernel_rfl
end Mine
open Mine
set_option maxRecDepth 100000 in
set_option maxHeartbeats 8000000 in
theorem PySem.Challenge.cw_rw0123_02_holds : PySem.Challenge.rw_rw0123_02.Holds := by
  refine holds_law law_said fun said => ?_
  refine holds_open (d := lawD) (kwd := []) (q := qT) (loose := looseT) (Xt := fun s => recOk [] s) (XP := fun _ _ => True) (Yf := YfT) (Ya := YaT) (YP := YPT) (N := 20000) left_T (fun w s => YPT_of w s) YPT_keeps (fun _ _ => trivial) (fun _ _ _ _ _ => trivial)
    law_def law_the law_kw (fun s e => recFacts_of e) (by rfl) (by first | assumption | decide +kernel) ?ok ?hb ?hw ?call
  case hw => w_witness2
  case ok => decide +kernel
  case hb => exact ⟨rfl, rfl, rfl, rfl, rfl, by decide +kernel⟩
  case call =>
    intro w s₀ s₁ mg mb G Y a o pm cd doc dV kV ho hd hcd hD hmg hg args vals as hpre hlay hrd hwl hlo
    clear hd hcd hD ho
    wrow_args hpre hlay hrd hwl hlo
    (rename Well _ _ _ _ => hw)
    (rename IntsAre _ _ => hi)
    (rename ¬ (_ : Int) < _ => hlen)
    have hmg' : mg (Str.ofString "law") = some (.ref a) := hmg
    clear hmg
    have hl := plain_of hw (by assumption)
    refine wpAny_mono (call_ok G Y hmg' hg hl hi (by omega)) (fun v s' q => ?_) (fun _ _ e => e.elim)
    obtain ⟨rfl, ko, ho, hg'⟩ := q
    exact ⟨.inl ⟨.bool true, .bool true, [], rfl, fun cls => rfl, ReadsW.bool _, post_true, fun _ => ⟨.nil, fun a ha => absurd ha List.not_mem_nil⟩⟩, ko, ho, AllBare.of_eq hg'⟩
end
